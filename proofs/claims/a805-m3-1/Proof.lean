import JvmDerived
import JvmDerived.Pilot.@@N@@Statement
import JvmDerived.Pilot.@@N@@Code
set_option linter.unusedVariables false
set_option linter.unusedSimpArgs false
namespace Jvm.Pilot.@@N@@
open Jvm Jvm.ClassFile Sem Op Lib Jvm.Free Jvm.Stand Jvm.LawKit Jvm.RoadKit Bundle Jvm.Pilot.@@N@@.Jvm.D
/-! GoKit: a walk told forwards. Go: from this frame on the method comes to its end as Q says; Does: what a call of a method does (over the library's MetFree). -/
section GoKit
variable {p : Program} {l : Launch} {e : Env} {R : Room} {s : State} {m : MethodId} {args : Array Value} {below : List Frame} {meth : Method} {c : Code} {T T' : State} {locs : List Loc} {cells slots : Nat} {Z : State} {a0 : Array Value} {h : Heap} {g g' : JFrame} {Q : Outcome → State → Prop}
def Go (p : Program) (e : Env) (below : List Frame) (Q : Outcome → State → Prop) (T : State) (g : JFrame) : Prop :=
  ∃ s₂ o, Steps p.tables e below (T.setTop g) s₂ ∧ s₂.status = .running ∧ Ended s₂ below o ∧ Q o s₂
theorem Go.st (k : ∀ target, Steps p.tables e below (T'.setTop g') target → Steps p.tables e below (T.setTop g) target) (H : Go p e below Q T' g') : Go p e below Q T g := by
  obtain ⟨s₂, o, h1, r⟩ := H; exact ⟨s₂, o, k _ h1, r⟩
theorem Go.eq (q : g = g') (H : Go p e below Q T g') : Go p e below Q T g := q ▸ H
def Ends (s : State) (k n : Nat) (P : Option Value → Heap → List Loc → Prop) : Outcome → State → Prop :=
  fun o U' => ∃ v L, o = .returned v ∧ P v U'.heap L ∧ FrameEnd s o U' L k n
theorem Go.ret (X : Stand p l e R s m args below meth c T locs cells slots) (hx : p.tables.exec = Jvm.exec) (hlk : meth.locks = false) {pc : Nat} {Ls : Array Slot} {w : Value} {t : FieldType} {i : Instr} {rest : List Value} {P : Option Value → Heap → List Loc → Prop} {k n : Nat}
    (hret : meth.sig.returnType = some t) (hn : narrow t w = w)
    (hi : (i = .ireturn ∧ (t = .int ∨ t = .boolean ∨ t = .byte ∨ t = .char ∨ t = .short) ∧ ∃ z, w = .int z) ∨ (i = .lreturn ∧ t = .long ∧ ∃ z, w = .long z) ∨ (i = .dreturn ∧ t = .double ∧ ∃ z, w = .double z) ∨ (i = .freturn ∧ t = .float ∧ ∃ z, w = .float z) ∨ (i = .areturn ∧ t.isReference = true ∧ w.isRef = true))
    (hd : decode c.code pc = .ok (i, 1)) (hk : cells ≤ k) (hs : slots ≤ n) (hP : P (some w) T.heap locs) : Go p e below (Ends s k n P) T (mkF m pc Ls (w :: rest)) := by
  obtain ⟨fs, hr, hrun, hended, hW, hsame⟩ := X.leave (v := some w) (fun h => by rw [hret] at h; cases h) hlk
  exact ⟨_, _, retOut X hx hret hn hi hd hr, hrun, hended, _, _, rfl, hP, ⟨_, rfl⟩, hW, hsame.mono hk hs⟩
theorem Go.retV (X : Stand p l e R s m args below meth c T locs cells slots) (hx : p.tables.exec = Jvm.exec) (hlk : meth.locks = false) {pc : Nat} {Ls : Array Slot} {P : Option Value → Heap → List Loc → Prop} {k n : Nat}
    (hret : meth.sig.returnType = none) (hd : decode c.code pc = .ok (.return_, 1)) (hk : cells ≤ k) (hs : slots ≤ n) (hP : P none T.heap locs) : Go p e below (Ends s k n P) T (mkF m pc Ls []) := by
  obtain ⟨fs, hr, hrun, hended, hW, hsame⟩ := X.leave (v := none) (fun _ => rfl) hlk
  exact ⟨_, _, X.returnOut hx hret hd hr, hrun, hended, _, _, rfl, hP, ⟨_, rfl⟩, hW, hsame.mono hk hs⟩
theorem Go.retZ (X : Stand p l e R s m args below meth c T locs cells slots) (hx : p.tables.exec = Jvm.exec) (hlk : meth.locks = false) {pc : Nat} {Ls : Array Slot} {z : Int32} {rest : List Value} {P : Option Value → Heap → List Loc → Prop} {k n : Nat}
    (hret : meth.sig.returnType = some .boolean) (hn : narrow .boolean (.int z) = .int z) (hd : decode c.code pc = .ok (.ireturn, 1)) (hk : cells ≤ k) (hs : slots ≤ n) (hP : P (some (.int z)) T.heap locs) : Go p e below (Ends s k n P) T (mkF m pc Ls (.int z :: rest)) :=
  Go.ret X hx hlk hret hn (Or.inl ⟨rfl, Or.inr (Or.inl rfl), z, rfl⟩) hd hk hs hP
theorem Go.retC (X : Stand p l e R s m args below meth c T locs cells slots) (hx : p.tables.exec = Jvm.exec) (hlk : meth.locks = false) {pc : Nat} {Ls : Array Slot} {z : Int32} {rest : List Value} {P : Option Value → Heap → List Loc → Prop} {k n : Nat}
    (hret : meth.sig.returnType = some .char) (hn : narrow .char (.int z) = .int z) (hd : decode c.code pc = .ok (.ireturn, 1)) (hk : cells ≤ k) (hs : slots ≤ n) (hP : P (some (.int z)) T.heap locs) : Go p e below (Ends s k n P) T (mkF m pc Ls (.int z :: rest)) :=
  Go.ret X hx hlk hret hn (Or.inl ⟨rfl, Or.inr (Or.inr (Or.inr (Or.inl rfl))), z, rfl⟩) hd hk hs hP
theorem Go.retI (X : Stand p l e R s m args below meth c T locs cells slots) (hx : p.tables.exec = Jvm.exec) (hlk : meth.locks = false) {pc : Nat} {Ls : Array Slot} {z : Int32} {rest : List Value} {P : Option Value → Heap → List Loc → Prop} {k n : Nat}
    (hret : meth.sig.returnType = some .int) (hd : decode c.code pc = .ok (.ireturn, 1)) (hk : cells ≤ k) (hs : slots ≤ n) (hP : P (some (.int z)) T.heap locs) : Go p e below (Ends s k n P) T (mkF m pc Ls (.int z :: rest)) :=
  Go.ret X hx hlk hret rfl (Or.inl ⟨rfl, Or.inl rfl, z, rfl⟩) hd hk hs hP
theorem Go.retJ (X : Stand p l e R s m args below meth c T locs cells slots) (hx : p.tables.exec = Jvm.exec) (hlk : meth.locks = false) {pc : Nat} {Ls : Array Slot} {z : Int64} {rest : List Value} {P : Option Value → Heap → List Loc → Prop} {k n : Nat}
    (hret : meth.sig.returnType = some .long) (hd : decode c.code pc = .ok (.lreturn, 1)) (hk : cells ≤ k) (hs : slots ≤ n) (hP : P (some (.long z)) T.heap locs) : Go p e below (Ends s k n P) T (mkF m pc Ls (.long z :: rest)) :=
  Go.ret X hx hlk hret rfl (Or.inr (Or.inl ⟨rfl, rfl, z, rfl⟩)) hd hk hs hP
theorem Go.retA (X : Stand p l e R s m args below meth c T locs cells slots) (hx : p.tables.exec = Jvm.exec) (hlk : meth.locks = false) {pc : Nat} {Ls : Array Slot} {w : Value} {t : FieldType} {rest : List Value} {P : Option Value → Heap → List Loc → Prop} {k n : Nat}
    (hret : meth.sig.returnType = some t) (ht : t.isReference = true) (hw : w.isRef = true) (hn : narrow t w = w) (hd : decode c.code pc = .ok (.areturn, 1)) (hk : cells ≤ k) (hs : slots ≤ n) (hP : P (some w) T.heap locs) : Go p e below (Ends s k n P) T (mkF m pc Ls (w :: rest)) :=
  Go.ret X hx hlk hret hn (Or.inr (Or.inr (Or.inr (Or.inr ⟨rfl, ht, hw⟩)))) hd hk hs hP
/-- what a call does: the arguments, the heap before, and P: what it returns, the heap behind, the places written -/
def Does (l : Launch) (Z : State) (y : MethodName) (bytes : ByteArray) (maxL : Nat) (ret : Option FieldType) (ws : List Jvm.Cond) (rm : Room) (as' : Array Value) (h : Heap) (P : Option Value → Heap → List Loc → Prop) : Prop :=
  MetFree l y (head1 (Jvm.Cond.code y bytes maxL ret :: ws) rm) (fun a U => a = as' ∧ Z.Warmed39 U.vm ∧ U.heap = h) (fun _ _ _ _ _ => True) (fun _ U o U' => ∃ v L, o = .returned v ∧ P v U'.heap L ∧ FrameEnd U o U' L rm.cells rm.slots)
theorem Does.intro {y : MethodName} {bytes : ByteArray} {maxL : Nat} {ret : Option FieldType} {ws : List Jvm.Cond} {rm : Room} {as' : Array Value} {P : Option Value → Heap → List Loc → Prop} {Ls : Array Slot} (hpn : plainName y.cls = true) (hef : ∀ m, entryFrame m as' maxL = mkF m 0 Ls [])
    (body : ∀ (p : Program) (e : Env) (s : State) (m : MethodId) (below : List Frame) (meth : Method) (c : Code) (s₁ : State), p.tables.exec = Jvm.exec → c.code = bytes → c.maxLocals = maxL → s.vm.findClass y.cls = some m.cls → meth.name = y.name → meth.sig.returnType = ret → meth.locks = false →
      Z.Warmed39 s.vm → s₁.heap = h → Stand p l e rm s m as' below meth c s₁ [] 0 0 → Go p e below (Ends s rm.cells rm.slots P) s₁ (mkF m 0 Ls [])) : Does l Z y bytes maxL ret ws rm as' h P := by
  refine MetFree.of_bodySF (plainFor_of_name hpn) hisR ?_
  intro p e s m args below meth c s₁ Bd hml0 hP hK
  obtain ⟨rfl, hZ, hh⟩ := hP
  have := body p e s m below meth c s₁ Bd.exec Bd.bytes hml0 (findClass_of_methodNamed Bd.named) (name_of_methodNamed Bd.named Bd.method).1 Bd.returns Bd.notSynchronized hZ (by rw [← hh, Bd.state]; rfl) (Stand.of_body Bd)
  obtain ⟨s₂, o, h1, h2, h3, h4⟩ := this
  exact ⟨s₂, o, castTop (hef m) h1, h2, h3, h4⟩
theorem Does.mono {y : MethodName} {bytes : ByteArray} {maxL : Nat} {ret : Option FieldType} {ws : List Jvm.Cond} {rm : Room} {as' : Array Value} {P P' : Option Value → Heap → List Loc → Prop} (D : Does l Z y bytes maxL ret ws rm as' h P) (q : ∀ v h' L, P v h' L → P' v h' L) : Does l Z y bytes maxL ret ws rm as' h P' := by
  intro p e ha hc hk s m args below hf happ hP hK
  obtain ⟨n, o, h1, h2, h3, v, L, h4, h5, h6⟩ := D p e ha hc hk s m args below hf happ hP hK
  exact ⟨n, o, h1, h2, h3, v, L, h4, q _ _ _ h5, h6⟩
theorem Does.static {y : MethodName} {bytes : ByteArray} {maxL : Nat} {ret : Option FieldType} {rm : Room} {P : Option Value → Heap → List Loc → Prop} {own : String} {index : Nat} {argsL rest : List Value} (D : Does l Z y bytes maxL ret [] rm argsL.toArray h P)
    (X : Stand p l e R s m args below meth c T locs cells slots) (hx : p.tables.exec = Jvm.exec) (hZ : Z.Warmed39 s.vm) (hown : s.vm.findClass own = some m.cls) (eT : T.heap = h) (w1 : (Cond.methodLink own index y).before a0 Z = true) (w2 : (Cond.static y).before a0 Z = true) (w3 : (Cond.initialized y.cls).before a0 Z = true) (w4 : (Cond.code y bytes maxL ret).before a0 Z = true)
    (hy : y.cls ≠ "java/lang/invoke/MethodHandle" ∧ y.cls ≠ "java/lang/invoke/VarHandle") (hg : g.method = m) (hsize : g.locals.size = c.maxLocals) (hlen : ∀ sig, parseMethodDescriptor y.desc = some sig → argsL.length = sig.parameters.length)
    (hstack : g.stack = argsL.reverse ++ rest) (hd : decode c.code g.pc = .ok (.invokestatic index, 3)) {W : Nat} (hW : 2 * g.monitorRoom + (rest.map fun v => v.category).sum ≤ W) (hf : rm.frames + 1 ≤ R.frames) (hl : W + (maxL + 11) + rm.locals ≤ R.locals) (hc : cells + rm.cells ≤ R.cells) (hs : slots + rm.slots ≤ R.slots) :
    ∃ v T' L, Stand p l e R s m args below meth c T' (locs ++ L) (cells + rm.cells) (slots + rm.slots) ∧ P v T'.heap L ∧ ∀ target, Steps p.tables e below (T'.setTop { g with pc := g.pc + 3, stack := v.toList ++ rest }) target → Steps p.tables e below (T.setTop g) target := by
  obtain ⟨v, vm₁, ⟨T', L', k', n'⟩, -, X', ⟨L, hQ, q1, q2, q3⟩, st⟩ := Jvm.LawKit.callS X hx (y := y) hown (mvT hZ w1) (mvT hZ w2) (mvT hZ w3) (mvT hZ w4) hy (backOf (W := W) D hZ w4 w3 hf hl) hg hsize (argsL := argsL) (rest := rest) hlen hstack hW hd (fun _ _ => ⟨rfl, eT, hc, hs⟩)
  dsimp only [Pt.U, Pt.locs, Pt.cells, Pt.slots] at X' q1 q2 q3 st hQ
  subst q1 q2 q3
  exact ⟨v, T', L, X', hQ, st⟩
theorem Does.special {y : MethodName} {bytes : ByteArray} {maxL : Nat} {rm : Room} {P : Option Value → Heap → List Loc → Prop} {own : String} {index : Nat} {a : Addr} {argsL rest : List Value} (D : Does l Z y bytes maxL none [] rm (.ref a :: argsL).toArray h P)
    (X : Stand p l e R s m args below meth c T locs cells slots) (hx : p.tables.exec = Jvm.exec) (hZ : Z.Warmed39 s.vm) (hown : s.vm.findClass own = some m.cls) (eT : T.heap = h) (hnm : y.name = "<init>") (w1 : (Cond.methodLink own index y).before a0 Z = true) (w2 : (Cond.instanceMethod y).before a0 Z = true) (w3 : (Cond.initialized y.cls).before a0 Z = true) (w4 : (Cond.code y bytes maxL none).before a0 Z = true)
    (hy : y.cls ≠ "java/lang/invoke/MethodHandle" ∧ y.cls ≠ "java/lang/invoke/VarHandle") (hg : g.method = m) (hsize : g.locals.size = c.maxLocals) (hlen : ∀ sig, parseMethodDescriptor y.desc = some sig → argsL.length = sig.parameters.length)
    (hstack : g.stack = argsL.reverse ++ .ref a :: rest) (hd : decode c.code g.pc = .ok (.invokespecial index, 3)) {W : Nat} (hW : 2 * g.monitorRoom + (rest.map fun v => v.category).sum ≤ W) (hf : rm.frames + 1 ≤ R.frames) (hl : W + (maxL + 11) + rm.locals ≤ R.locals) (hc : cells + rm.cells ≤ R.cells) (hs : slots + rm.slots ≤ R.slots) :
    ∃ v T' L, Stand p l e R s m args below meth c T' (locs ++ L) (cells + rm.cells) (slots + rm.slots) ∧ P v T'.heap L ∧ ∀ target, Steps p.tables e below (T'.setTop { g with pc := g.pc + 3, stack := v.toList ++ rest }) target → Steps p.tables e below (T.setTop g) target := by
  obtain ⟨v, vm₁, ⟨T', L', k', n'⟩, -, X', ⟨L, hQ, q1, q2, q3⟩, st⟩ := X.specialBack hx (y := y) hnm hown (mvT hZ w1) (mvT hZ w2) (mvT hZ w4) hy (backOf (W := W) D hZ w4 w3 hf hl) hg hsize (Steps.refl _) (a := a) (argsL := argsL) (rest := rest) hlen hstack hW hd (fun _ _ => ⟨rfl, eT, hc, hs⟩)
  dsimp only [Pt.U, Pt.locs, Pt.cells, Pt.slots] at X' q1 q2 q3 st hQ
  subst q1 q2 q3
  exact ⟨v, T', L, X', hQ, fun _ k => st.trans k⟩
theorem Does.virtual {y : MethodName} {bytes : ByteArray} {maxL : Nat} {ret : Option FieldType} {rm : Room} {P : Option Value → Heap → List Loc → Prop} {own C : String} {index : Nat} {a : Addr} {argsL rest : List Value} (D : Does l Z y bytes maxL ret [] rm (.ref a :: argsL).toArray h P)
    (X : Stand p l e R s m args below meth c T locs cells slots) (hx : p.tables.exec = Jvm.exec) (hZ : Z.Warmed39 s.vm) (hown : s.vm.findClass own = some m.cls) (eT : T.heap = h) (E : Exa Z h a C) (w1 : (Cond.methodLink own index y).before a0 Z = true) (w2 : (Cond.declares y).before a0 Z = true) (w2' : (Cond.selects C y y).before a0 Z = true) (w2'' : (Cond.instanceMethod y).before a0 Z = true) (w3 : (Cond.initialized y.cls).before a0 Z = true) (w4 : (Cond.code y bytes maxL ret).before a0 Z = true)
    (hy : y.cls ≠ "java/lang/invoke/MethodHandle" ∧ y.cls ≠ "java/lang/invoke/VarHandle") (hg : g.method = m) (hsize : g.locals.size = c.maxLocals) (hlen : ∀ sig, parseMethodDescriptor y.desc = some sig → argsL.length = sig.parameters.length)
    (hstack : g.stack = argsL.reverse ++ .ref a :: rest) (hd : decode c.code g.pc = .ok (.invokevirtual index, 3)) {W : Nat} (hW : 2 * g.monitorRoom + (rest.map fun v => v.category).sum ≤ W) (hf : rm.frames + 1 ≤ R.frames) (hl : W + (maxL + 11) + rm.locals ≤ R.locals) (hc : cells + rm.cells ≤ R.cells) (hs : slots + rm.slots ≤ R.slots) :
    ∃ v T' L, Stand p l e R s m args below meth c T' (locs ++ L) (cells + rm.cells) (slots + rm.slots) ∧ P v T'.heap L ∧ ∀ target, Steps p.tables e below (T'.setTop { g with pc := g.pc + 3, stack := v.toList ++ rest }) target → Steps p.tables e below (T.setTop g) target := by
  obtain ⟨cB, kB, q1, -, q3⟩ := isOf hZ eT E
  obtain ⟨v, vm₁, ⟨T', L', k', n'⟩, -, X', ⟨L, hQ, q1, q2, q3⟩, st⟩ := X.virtualBack hx (y := y) (z := y) hown (mvT hZ w1) (mvT hZ w2) (notFace_of_selects (args := #[]) (mvT hZ w2')) (mvT hZ w2') (mvT hZ w2'') hy (backOf (W := W) D hZ w4 w3 hf hl) q1 q3 hg hsize (Steps.refl _) (argsL := argsL) (rest := rest) hlen hstack hW hd (fun _ _ => ⟨rfl, eT, hc, hs⟩)
  dsimp only [Pt.U, Pt.locs, Pt.cells, Pt.slots] at X' q1 q2 q3 st hQ
  subst q1 q2 q3
  exact ⟨v, T', L, X', hQ, fun _ k => st.trans k⟩
theorem Does.virtualUp {x' z : MethodName} {owner : String} {bytes : ByteArray} {maxL : Nat} {ret : Option FieldType} {rm : Room} {P : Option Value → Heap → List Loc → Prop} {own C : String} {index : Nat} {a : Addr} {argsL rest : List Value} (D : Does l Z z bytes maxL ret [] rm (.ref a :: argsL).toArray h P)
    (X : Stand p l e R s m args below meth c T locs cells slots) (hx : p.tables.exec = Jvm.exec) (hZ : Z.Warmed39 s.vm) (hown : s.vm.findClass own = some m.cls) (eT : T.heap = h) (E : Exa Z h a C) (w1 : (Cond.methodLink own index x').before a0 Z = true) (w1' : (Cond.sameMethod x'.cls owner x'.name x'.desc).before a0 Z = true) (w2 : (Cond.declares ⟨owner, x'.name, x'.desc⟩).before a0 Z = true) (w2' : (Cond.selects C x' z).before a0 Z = true) (w2'' : (Cond.instanceMethod z).before a0 Z = true) (w3 : (Cond.initialized z.cls).before a0 Z = true) (w4 : (Cond.code z bytes maxL ret).before a0 Z = true)
    (hy : owner ≠ "java/lang/invoke/MethodHandle" ∧ owner ≠ "java/lang/invoke/VarHandle") (hg : g.method = m) (hsize : g.locals.size = c.maxLocals) (hlen : ∀ sig, parseMethodDescriptor x'.desc = some sig → argsL.length = sig.parameters.length)
    (hstack : g.stack = argsL.reverse ++ .ref a :: rest) (hd : decode c.code g.pc = .ok (.invokevirtual index, 3)) {W : Nat} (hW : 2 * g.monitorRoom + (rest.map fun v => v.category).sum ≤ W) (hf : rm.frames + 1 ≤ R.frames) (hl : W + (maxL + 11) + rm.locals ≤ R.locals) (hc : cells + rm.cells ≤ R.cells) (hs : slots + rm.slots ≤ R.slots) :
    ∃ v T' L, Stand p l e R s m args below meth c T' (locs ++ L) (cells + rm.cells) (slots + rm.slots) ∧ P v T'.heap L ∧ ∀ target, Steps p.tables e below (T'.setTop { g with pc := g.pc + 3, stack := v.toList ++ rest }) target → Steps p.tables e below (T.setTop g) target := by
  obtain ⟨cB, kB, q1, -, q3⟩ := isOf hZ eT E
  obtain ⟨v, vm₁, ⟨T', L', k', n'⟩, -, X', ⟨L, hQ, q1, q2, q3⟩, st⟩ := X.virtualBackUp hx (x := x') (y := z) hown (mvT hZ w1) (mvT hZ w1') (mvT hZ w2) hy (mvT hZ w2') (mvT hZ w2'') (backOf (W := W) D hZ w4 w3 hf hl) q1 q3 hg hsize (Steps.refl _) (argsL := argsL) (rest := rest) hlen hstack hW hd (fun _ _ => ⟨rfl, eT, hc, hs⟩)
  dsimp only [Pt.U, Pt.locs, Pt.cells, Pt.slots] at X' q1 q2 q3 st hQ
  subst q1 q2 q3
  exact ⟨v, T', L, X', hQ, fun _ k => st.trans k⟩
/-- a call that leaves the heap as it was and returns w -/
abbrev Val (w : Option Value) (h : Heap) : Option Value → Heap → List Loc → Prop := fun v h' L => v = w ∧ L = [] ∧ h' = h
theorem own_still {w : Option Value} {rm : Room} {rest : List Value} (hc : rm.cells = 0) (hs : rm.slots = 0)
    (H : ∃ v T' L, Stand p l e R s m args below meth c T' (locs ++ L) (cells + rm.cells) (slots + rm.slots) ∧ Val w h v T'.heap L ∧ ∀ target, Steps p.tables e below (T'.setTop { g with pc := g.pc + 3, stack := v.toList ++ rest }) target → Steps p.tables e below (T.setTop g) target) :
    ∃ T', Stand p l e R s m args below meth c T' locs cells slots ∧ T'.heap = h ∧ ∀ target, Steps p.tables e below (T'.setTop { g with pc := g.pc + 3, stack := w.toList ++ rest }) target → Steps p.tables e below (T.setTop g) target := by
  obtain ⟨v, T', L, X', ⟨rfl, rfl, e'⟩, st⟩ := H
  rw [hc, hs, List.append_nil] at X'
  exact ⟨T', X', e', st⟩
theorem own_Llt {x y : Int64} (h : x < y) : XT.cmpL x y < 0 := (lw_lt x y).mpr h
theorem own_Lnlt {x y : Int64} (h : ¬ x < y) : ¬ XT.cmpL x y < 0 := fun q => h ((lw_lt x y).mp q)
theorem own_Lgt {x y : Int64} (h : y < x) : 0 < XT.cmpL x y := (lw_gt x y).mpr h
theorem own_Lngt {x y : Int64} (h : ¬ y < x) : ¬ 0 < XT.cmpL x y := fun q => h ((lw_gt x y).mp q)
theorem own_Leq {x y : Int64} (h : x = y) : XT.cmpL x y = 0 := (lw_eq x y).mpr h
theorem own_Lneq {x y : Int64} (h : ¬ x = y) : ¬ XT.cmpL x y = 0 := fun q => h ((lw_eq x y).mp q)
theorem own_aeq {a b : Addr} (h : a = b) : XT.acmp .eq (.ref a) (.ref b) = true ∧ XT.acmp .ne (.ref a) (.ref b) = false := by subst h; exact ⟨decide_eq_true rfl, decide_eq_false (fun q => q rfl)⟩
theorem own_ane {a b : Addr} (h : ¬ a = b) : XT.acmp .eq (.ref a) (.ref b) = false ∧ XT.acmp .ne (.ref a) (.ref b) = true := ⟨decide_eq_false (fun q => h (by cases q; rfl)), decide_eq_true (fun q => h (by cases q; rfl))⟩
theorem own_lswHit (X : Stand p l e R s m args below meth c T locs cells slots) (hx : p.tables.exec = Jvm.exec) (hg : g.method = m) {k : Int32} {rest : List Value} (hs : g.stack = .int k :: rest) {dflt : Int} {pairs : Array (Int × Int)} {len : Nat} (hd : decode c.code g.pc = .ok (.lookupswitch dflt pairs, len))
    (hsorted : (pairs.toList.zip (pairs.toList.drop 1)).all (fun (a, next) => a.1 < next.1) = true) {a off : Int} (hfind : pairs.find? (·.1 == k.toInt) = some (a, off)) {pc0 pc' : Nat} (hpc : g.pc = pc0) (ho : 0 ≤ (pc0 : Int) + off) (hp : ((pc0 : Int) + off).toNat = pc') :
    ∀ target, Steps p.tables e below (T.setTop { g with pc := pc', stack := rest }) target → Steps p.tables e below (T.setTop g) target := by
  subst hpc hp
  exact fun t h => X.lookupswitchHit hx hg hs hd hsorted hfind ho t h
theorem own_ext {h0 h : Heap} (K : Keep h0 h []) : Ext h0 h := ⟨K.1, fun x c q => K.2.1 x c q nin0⟩
end GoKit
/-! ArrKit: arrays by Arv, one law a step -/
section ArrKit
variable {p : Program} {l : Launch} {e : Env} {R : Room} {s : State} {m : MethodId} {args : Array Value} {below : List Frame} {meth : Method} {c : Code} {T T' : State} {locs : List Loc} {cells slots : Nat} {Z : State} {a0 : Array Value} {h : Heap} {g g' : JFrame} {a : Addr} {k : ClassId} {z j : Int32} {vs : List Value} {dv : Value} {rest : List Value} {ty : FieldType}
theorem own_stI (X : Stand p l e R s m args below meth c T locs cells slots) (hx : p.tables.exec = Jvm.exec) (hZ : Z.Warmed39 s.vm) (eT : T.heap = h) (Vv : Arv Z h a k .int z vs dv) {x : Int32} (hj0 : ¬ j < 0) (hj1 : j < z) (i : Nat) (hi : j.toNatClampNeg = i) (hl : i < vs.length) (hg : g.method = m) (hs : g.stack = .int x :: .int j :: .ref a :: rest) (hd : decode c.code g.pc = .ok (.iastore, 1)) :
    ∃ T' h', Stand p l e R s m args below meth c T' (locs ++ [⟨a, j.toNatClampNeg⟩]) cells slots ∧ T'.heap = h' ∧ Wr h h' a j.toNatClampNeg (.int x) ∧ Arv Z h' a k .int z (vs.set i (.int x)) dv ∧ ∀ target, Steps p.tables e below (T'.setTop { g with pc := g.pc + 1, stack := rest }) target → Steps p.tables e below (T.setTop g) target := by
  obtain ⟨c', A, q1, S, q3, H, G⟩ := Vv
  obtain ⟨T', h', X', e', W, st⟩ := stI X hx hZ eT A (inb_of S ⟨hj0, hj1⟩) hg hs hd
  exact ⟨T', h', X', e', W, Arv.set A q1 S q3 H G rfl W i hi hl, st⟩
theorem own_stC (X : Stand p l e R s m args below meth c T locs cells slots) (hx : p.tables.exec = Jvm.exec) (hZ : Z.Warmed39 s.vm) (eT : T.heap = h) (Vv : Arv Z h a k .char z vs dv) {x : Int32} (hj0 : ¬ j < 0) (hj1 : j < z) (i : Nat) (hi : j.toNatClampNeg = i) (hl : i < vs.length) (hg : g.method = m) (hs : g.stack = .int x :: .int j :: .ref a :: rest) (hd : decode c.code g.pc = .ok (.castore, 1)) :
    ∃ T' h', Stand p l e R s m args below meth c T' (locs ++ [⟨a, j.toNatClampNeg⟩]) cells slots ∧ T'.heap = h' ∧ Wr h h' a j.toNatClampNeg (.int (nar .char x)) ∧ Arv Z h' a k .char z (vs.set i (.int (nar .char x))) dv ∧ ∀ target, Steps p.tables e below (T'.setTop { g with pc := g.pc + 1, stack := rest }) target → Steps p.tables e below (T.setTop g) target := by
  obtain ⟨c', A, q1, S, q3, H, G⟩ := Vv
  obtain ⟨T', h', X', e', W, st⟩ := stC X hx hZ eT A (inb_of S ⟨hj0, hj1⟩) hg hs hd
  exact ⟨T', h', X', e', W, Arv.set A q1 S q3 H G (fits_nar_char x) W i hi hl, st⟩
theorem own_stR (X : Stand p l e R s m args below meth c T locs cells slots) (hx : p.tables.exec = Jvm.exec) (hZ : Z.Warmed39 s.vm) (eT : T.heap = h) {C K : String} (Vv : Arv Z h a k (.object C) z vs dv) (O : Ovr Z k K) {y : Addr} (I : Ins Z h y K true) (hj0 : ¬ j < 0) (hj1 : j < z) (i : Nat) (hi : j.toNatClampNeg = i) (hl : i < vs.length) (hg : g.method = m) (hs : g.stack = .ref y :: .int j :: .ref a :: rest) (hd : decode c.code g.pc = .ok (.aastore, 1)) :
    ∃ T' h', Stand p l e R s m args below meth c T' (locs ++ [⟨a, j.toNatClampNeg⟩]) cells slots ∧ T'.heap = h' ∧ Wr h h' a j.toNatClampNeg (.ref y) ∧ Arv Z h' a k (.object C) z (vs.set i (.ref y)) dv ∧ ∀ target, Steps p.tables e below (T'.setTop { g with pc := g.pc + 1, stack := rest }) target → Steps p.tables e below (T.setTop g) target := by
  obtain ⟨c', A, q1, S, q3, H, G⟩ := Vv
  obtain ⟨T', h', X', e', W, st⟩ := stR X hx hZ eT A (inb_of S ⟨hj0, hj1⟩) rfl (Sto.ofV A q1 O I) hg hs hd
  exact ⟨T', h', X', e', W, Arv.set A q1 S q3 H G rfl W i hi hl, st⟩
theorem own_ldI (X : Stand p l e R s m args below meth c T locs cells slots) (hx : p.tables.exec = Jvm.exec) (hZ : Z.Warmed39 s.vm) (eT : T.heap = h) (Vv : Arv Z h a k .int z vs dv) {w : Int32} (hj0 : ¬ j < 0) (hj1 : j < z) (hv : vs.getD j.toNatClampNeg dv = .int w) (hg : g.method = m) (hs : g.stack = .int j :: .ref a :: rest) (hd : decode c.code g.pc = .ok (.iaload, 1)) :
    ∀ target, Steps p.tables e below (T.setTop { g with pc := g.pc + 1, stack := .int w :: rest }) target → Steps p.tables e below (T.setTop g) target := by
  obtain ⟨c', A, q1, S, q3, H, G⟩ := Vv
  have q := inb_of S ⟨hj0, hj1⟩
  exact fun t k => X.iaload hx (by rw [eT]; exact A.1) (State.isArrayOf_alike hZ.alike A.2.1) A.2.2 q (Has.at H q hv) hg hs hd t k
theorem own_ldC (X : Stand p l e R s m args below meth c T locs cells slots) (hx : p.tables.exec = Jvm.exec) (hZ : Z.Warmed39 s.vm) (eT : T.heap = h) (Vv : Arv Z h a k .char z vs dv) {w : Int32} (hj0 : ¬ j < 0) (hj1 : j < z) (hv : vs.getD j.toNatClampNeg dv = .int w) (hg : g.method = m) (hs : g.stack = .int j :: .ref a :: rest) (hd : decode c.code g.pc = .ok (.caload, 1)) :
    ∀ target, Steps p.tables e below (T.setTop { g with pc := g.pc + 1, stack := .int w :: rest }) target → Steps p.tables e below (T.setTop g) target := by
  obtain ⟨c', A, q1, S, q3, H, G⟩ := Vv
  have q := inb_of S ⟨hj0, hj1⟩
  exact fun t k => X.caload hx (by rw [eT]; exact A.1) (State.isArrayOf_alike hZ.alike A.2.1) A.2.2 q (Has.at H q hv) hg hs hd t k
theorem own_ldB (X : Stand p l e R s m args below meth c T locs cells slots) (hx : p.tables.exec = Jvm.exec) (hZ : Z.Warmed39 s.vm) (eT : T.heap = h) (Vv : Arv Z h a k .byte z vs dv) {w : Int32} (hj0 : ¬ j < 0) (hj1 : j < z) (hv : vs.getD j.toNatClampNeg dv = .int w) (hg : g.method = m) (hs : g.stack = .int j :: .ref a :: rest) (hd : decode c.code g.pc = .ok (.baload, 1)) :
    ∀ target, Steps p.tables e below (T.setTop { g with pc := g.pc + 1, stack := .int w :: rest }) target → Steps p.tables e below (T.setTop g) target := by
  obtain ⟨c', A, q1, S, q3, H, G⟩ := Vv
  have q := inb_of S ⟨hj0, hj1⟩
  exact fun t k => X.baloadBytes hx (by rw [eT]; exact A.1) (State.isArrayOf_alike hZ.alike A.2.1) A.2.2 q (Has.at H q hv) hg hs hd t k
theorem own_ldR (X : Stand p l e R s m args below meth c T locs cells slots) (hx : p.tables.exec = Jvm.exec) (hZ : Z.Warmed39 s.vm) (eT : T.heap = h) (Vv : Arv Z h a k ty z vs dv) (hty : ty.isReference = true) {w : Value} (hj0 : ¬ j < 0) (hj1 : j < z) (hv : vs.getD j.toNatClampNeg dv = w) (hg : g.method = m) (hs : g.stack = .int j :: .ref a :: rest) (hd : decode c.code g.pc = .ok (.aaload, 1)) :
    ∀ target, Steps p.tables e below (T.setTop { g with pc := g.pc + 1, stack := w :: rest }) target → Steps p.tables e below (T.setTop g) target := by
  obtain ⟨c', A, q1, S, q3, H, G⟩ := Vv
  have q := inb_of S ⟨hj0, hj1⟩
  exact fun t k => X.aaload hx (by rw [eT]; exact A.1) (State.isArrayOf_alike hZ.alike A.2.1) hty A.2.2 q (Has.at H q hv) hg hs hd t k
theorem own_len (X : Stand p l e R s m args below meth c T locs cells slots) (hx : p.tables.exec = Jvm.exec) (hZ : Z.Warmed39 s.vm) (eT : T.heap = h) (Vv : Arv Z h a k ty z vs dv) (hg : g.method = m) (hs : g.stack = .ref a :: rest) (hd : decode c.code g.pc = .ok (.arraylength, 1)) :
    ∀ target, Steps p.tables e below (T.setTop { g with pc := g.pc + 1, stack := .int z :: rest }) target → Steps p.tables e below (T.setTop g) target := by
  obtain ⟨c', A, q1, S, q3, H, G⟩ := Vv
  exact fun t k => X.arraylength hx (by rw [eT]; exact A.1) (State.isArrayOf_alike hZ.alike A.2.1) hg hs hd t (by rw [len_of S q3]; exact k)
end ArrKit
/-! WideKit: a body that loads String constants: its start is Z itself; its end is the wide one -/
section WideKit
variable {p : Program} {l : Launch} {e : Env} {R : Room} {s : State} {m : MethodId} {args : Array Value} {below : List Frame} {meth : Method} {c : Code} {T T' : State} {locs : List Loc} {cells slots : Nat} {Z : State} {a0 : Array Value} {h : Heap} {g g' : JFrame}
def EndsW (s : State) (k n : Nat) (P : Option Value → Heap → List Loc → Prop) : Outcome → State → Prop :=
  fun o U' => ∃ v L, o = .returned v ∧ P v U'.heap L ∧ ReturnedEndW s o U' L k n
theorem Go.retZW {vm₁ : Vm} (X : Stand p l e R (s.setVm vm₁) m args below meth c T locs cells slots) (hx : p.tables.exec = Jvm.exec) (hlk : meth.locks = false) {pc : Nat} {Ls : Array Slot} {z : Int32} {rest : List Value} {P : Option Value → Heap → List Loc → Prop} {k n : Nat}
    (hret : meth.sig.returnType = some .boolean) (hn : narrow .boolean (.int z) = .int z) (hd : decode c.code pc = .ok (.ireturn, 1)) {n1 : Nat} (hS : s.Since vm₁ n1) (hle : n1 ≤ T.heap.size) (hk : cells ≤ k) (hs : slots ≤ n) (hP : P (some (.int z)) T.heap locs) : Go p e below (EndsW s k n P) T (mkF m pc Ls (.int z :: rest)) := by
  obtain ⟨fs, hr, hrun, hended, hW⟩ := X.leaveW hS hle (v := some (.int z)) (fun h => by rw [hret] at h; cases h) hlk
  exact ⟨_, _, retOut X hx hret hn (Or.inl ⟨rfl, Or.inr (Or.inl rfl), z, rfl⟩) hd hr, hrun, hended, _, _, rfl, hP, hW.1, hW.2.1, hW.2.2.1, hW.2.2.2.mono hk hs⟩
def DoesW (l : Launch) (Z : State) (y : MethodName) (bytes : ByteArray) (maxL : Nat) (ret : Option FieldType) (ws : List Jvm.Cond) (rm : Room) (as' : Array Value) (P : Option Value → Heap → List Loc → Prop) : Prop :=
  MetFree l y (head1 (Jvm.Cond.code y bytes maxL ret :: ws) rm) (fun a U => a = as' ∧ U = Z) (fun _ _ _ _ _ => True) (fun _ U o U' => ∃ v L, o = .returned v ∧ P v U'.heap L ∧ ReturnedEndW U o U' L rm.cells rm.slots)
theorem DoesW.intro {y : MethodName} {bytes : ByteArray} {maxL : Nat} {ret : Option FieldType} {ws : List Jvm.Cond} {rm : Room} {as' : Array Value} {P : Option Value → Heap → List Loc → Prop} {Ls : Array Slot} (hpn : plainName y.cls = true) (hef : ∀ m, entryFrame m as' maxL = mkF m 0 Ls [])
    (body : ∀ (p : Program) (e : Env) (m : MethodId) (below : List Frame) (meth : Method) (c : Code) (s₁ : State), p.tables.exec = Jvm.exec → c.code = bytes → c.maxLocals = maxL → Z.vm.findClass y.cls = some m.cls → meth.name = y.name → meth.sig.returnType = ret → meth.locks = false →
      s₁.heap = Z.heap → Stand p l e rm Z m as' below meth c s₁ [] 0 0 → Go p e below (EndsW Z rm.cells rm.slots P) s₁ (mkF m 0 Ls [])) : DoesW l Z y bytes maxL ret ws rm as' P := by
  refine MetFree.of_bodySF (plainFor_of_name hpn) hisR ?_
  intro p e s m args below meth c s₁ Bd hml0 hP hK
  obtain ⟨rfl, rfl⟩ := hP
  have := body p e m below meth c s₁ Bd.exec Bd.bytes hml0 (findClass_of_methodNamed Bd.named) (name_of_methodNamed Bd.named Bd.method).1 Bd.returns Bd.notSynchronized (by rw [Bd.state]; rfl) (Stand.of_body Bd)
  obtain ⟨s₂, o, h1, h2, h3, h4⟩ := this
  exact ⟨s₂, o, castTop (hef m) h1, h2, h3, h4⟩
end WideKit
theorem own_sta {Z : State} {args : Array Value} {C f d K : String} (h : (Jvm.Cond.exactly (.static C f d) K).value args Z none Z [] = some true) (wi : (Jvm.Cond.initialized C).before args Z = true) (wl : (Jvm.Cond.laysStatic C f d).before args Z = true) :
    ∃ x, (Term.static C f d).eval args Z none [] Z = some (.ref x) ∧ Sta Z Z.heap C f d (.ref x) ∧ Exa Z Z.heap x K := by
  obtain ⟨x, ev⟩ := exa_v h
  exact ⟨x, ev, Sta.start ev (Or.inr ⟨wi, wl⟩), Exa.start ev h⟩
theorem own_fldI {Z : State} {args : Array Value} {t : Term} {O n d : String} {k : Int32} {x : Addr} (ev : t.eval args Z none [] Z = some (.ref x)) (h : (Jvm.Cond.eq (.field t O n d) (.int k)).value args Z none Z [] = some true) : Fld Z Z.heap x O n d (.int k) := by
  obtain ⟨u, v, e1, e2, k1, -⟩ := cmp_v (Or.inl h)
  have e3 : v = .int k := by simpa [Term.eval] using e2.symm
  subst e3
  obtain ⟨z, rfl⟩ : ∃ z, u = .int z := by cases u <;> simp [Kin, Value.isRef] at k1 ⊢
  have q : z = k := gotT (Cond.eq_ints e1 e2) h
  subst q
  exact Fld.start ((fld_at ev).symm.trans e1)
theorem own_ref {Z : State} {args : Array Value} {t : Term} {K : String} (h : (Jvm.Cond.exactly t K).value args Z none Z [] = some true) : ∃ x, t.eval args Z none [] Z = some (.ref x) ∧ Exa Z Z.heap x K := by
  obtain ⟨x, ev⟩ := exa_v h
  exact ⟨x, ev, Exa.start ev h⟩
theorem own_fldR {Z : State} {args : Array Value} {t : Term} {O n d : String} {x y : Addr} (ev : t.eval args Z none [] Z = some (.ref x)) (h : (Term.field t O n d).eval args Z none [] Z = some (.ref y)) : Fld Z Z.heap x O n d (.ref y) := Fld.start ((fld_at ev).symm.trans h)
theorem own_eqI {Z : State} {args : Array Value} {t : Term} {k : Int32} (h : (Jvm.Cond.eq t (.int k)).value args Z none Z [] = some true) : t.eval args Z none [] Z = some (.int k) := by
  obtain ⟨u, v, e1, e2, k1, -⟩ := cmp_v (Or.inl h)
  have e3 : v = .int k := by simpa [Term.eval] using e2.symm
  subst e3
  obtain ⟨z, rfl⟩ : ∃ z, u = .int z := by cases u <;> simp [Kin, Value.isRef] at k1 ⊢
  have q : z = k := gotT (Cond.eq_ints e1 e2) h
  subst q
  exact e1
theorem own_eqR {Z : State} {args : Array Value} {t t' : Term} {x : Addr} (ev : t'.eval args Z none [] Z = some (.ref x)) (h : (Jvm.Cond.eq t t').value args Z none Z [] = some true) : t.eval args Z none [] Z = some (.ref x) := by
  obtain ⟨u, v, e1, e2, k1, k2⟩ := cmp_v (Or.inl h)
  cases e2.symm.trans ev
  have r1 : u.isRef = true := k2.2
  have q : u = .ref x := gotT (eq_R e1 e2 r1 rfl) h
  rw [e1, q]
theorem own_arr {Z : State} {args : Array Value} {t : Term} {z : Int32} {x : Addr} (ev : t.eval args Z none [] Z = some (.ref x)) (ha : (Jvm.Cond.arrayOf t .byte).value args Z none Z [] = some true) (hl : (Jvm.Cond.eq (.length t) (.int z)).value args Z none Z [] = some true) :
    ∃ cl, Arr Z Z.heap x cl .byte ∧ cl.slots.size < 2 ^ 31 ∧ cl.slots.size.toInt32 = z := by
  obtain ⟨cl, A⟩ := Arr.start ev ha
  have e1 := own_eqI hl
  obtain ⟨b, cell, h1, h2, h3, h4⟩ := Jvm.Lib.length_spec e1
  cases ev.symm.trans h1
  have e5 := A.fin (Vm.Alike.refl _)
  cases e5.symm.trans h2
  cases h4
  exact ⟨_, A, h3, rfl⟩
theorem own_el {Z : State} {args : Array Value} {t : Term} {x : Addr} {cl : Cell} {i v : Int32} (ev : t.eval args Z none [] Z = some (.ref x)) (A : Arr Z Z.heap x cl .byte) (h : (Jvm.Cond.eq (.elem t (.int i)) (.int v)).value args Z none Z [] = some true) : cl.slots[i.toNatClampNeg]? = some (.int v) :=
  (elem_in (own_eqI h) ev (Term.int_eval i) A.1).2
theorem d_jdk_43_method_13_code_0 : decode jdk_43_method_13_code 0 = .ok (.aload_n 0, 1) := by decide +kernel
theorem d_jdk_43_method_13_code_1 : decode jdk_43_method_13_code 1 = .ok (.arraylength, 1) := by decide +kernel
theorem d_jdk_43_method_13_code_2 : decode jdk_43_method_13_code 2 = .ok (.aload_n 1, 1) := by decide +kernel
theorem d_jdk_43_method_13_code_3 : decode jdk_43_method_13_code 3 = .ok (.arraylength, 1) := by decide +kernel
theorem d_jdk_43_method_13_code_4 : decode jdk_43_method_13_code 4 = .ok (.if_icmp .ne 30, 3) := by decide +kernel
theorem d_jdk_43_method_13_code_7 : decode jdk_43_method_13_code 7 = .ok (.iconst 0, 1) := by decide +kernel
theorem d_jdk_43_method_13_code_8 : decode jdk_43_method_13_code 8 = .ok (.istore_n 2, 1) := by decide +kernel
theorem d_jdk_43_method_13_code_9 : decode jdk_43_method_13_code 9 = .ok (.iload_n 2, 1) := by decide +kernel
theorem d_jdk_43_method_13_code_10 : decode jdk_43_method_13_code 10 = .ok (.aload_n 0, 1) := by decide +kernel
theorem d_jdk_43_method_13_code_11 : decode jdk_43_method_13_code 11 = .ok (.arraylength, 1) := by decide +kernel
theorem d_jdk_43_method_13_code_12 : decode jdk_43_method_13_code 12 = .ok (.if_icmp .ge 20, 3) := by decide +kernel
theorem d_jdk_43_method_13_code_15 : decode jdk_43_method_13_code 15 = .ok (.aload_n 0, 1) := by decide +kernel
theorem d_jdk_43_method_13_code_16 : decode jdk_43_method_13_code 16 = .ok (.iload_n 2, 1) := by decide +kernel
theorem d_jdk_43_method_13_code_17 : decode jdk_43_method_13_code 17 = .ok (.baload, 1) := by decide +kernel
theorem d_jdk_43_method_13_code_18 : decode jdk_43_method_13_code 18 = .ok (.aload_n 1, 1) := by decide +kernel
theorem d_jdk_43_method_13_code_19 : decode jdk_43_method_13_code 19 = .ok (.iload_n 2, 1) := by decide +kernel
theorem d_jdk_43_method_13_code_20 : decode jdk_43_method_13_code 20 = .ok (.baload, 1) := by decide +kernel
theorem d_jdk_43_method_13_code_21 : decode jdk_43_method_13_code 21 = .ok (.if_icmp .eq 5, 3) := by decide +kernel
theorem d_jdk_43_method_13_code_26 : decode jdk_43_method_13_code 26 = .ok (.iinc 2 1, 3) := by decide +kernel
theorem d_jdk_43_method_13_code_29 : decode jdk_43_method_13_code 29 = .ok (.goto (-20), 3) := by decide +kernel
theorem d_jdk_43_method_13_code_32 : decode jdk_43_method_13_code 32 = .ok (.iconst 1, 1) := by decide +kernel
theorem d_jdk_43_method_13_code_33 : decode jdk_43_method_13_code 33 = .ok (.ireturn, 1) := by decide +kernel
theorem pn_java_lang_StringLatin1 : plainName "java/lang/StringLatin1" = true := by first | (simp [plainName, overriddenIn]; done) | decide +kernel
theorem d_jdk_42_method_66_code_0 : decode jdk_42_method_66_code 0 = .ok (.aload_n 0, 1) := by decide +kernel
theorem d_jdk_42_method_66_code_1 : decode jdk_42_method_66_code 1 = .ok (.aload_n 1, 1) := by decide +kernel
theorem d_jdk_42_method_66_code_2 : decode jdk_42_method_66_code 2 = .ok (.if_acmp .ne 5, 3) := by decide +kernel
theorem d_jdk_42_method_66_code_5 : decode jdk_42_method_66_code 5 = .ok (.iconst 1, 1) := by decide +kernel
theorem d_jdk_42_method_66_code_6 : decode jdk_42_method_66_code 6 = .ok (.ireturn, 1) := by decide +kernel
theorem d_jdk_42_method_66_code_7 : decode jdk_42_method_66_code 7 = .ok (.aload_n 1, 1) := by decide +kernel
theorem d_jdk_42_method_66_code_8 : decode jdk_42_method_66_code 8 = .ok (.instanceof 10, 3) := by decide +kernel
theorem d_jdk_42_method_66_code_11 : decode jdk_42_method_66_code 11 = .ok (.ifCond .eq 43, 3) := by decide +kernel
theorem d_jdk_42_method_66_code_14 : decode jdk_42_method_66_code 14 = .ok (.aload_n 1, 1) := by decide +kernel
theorem d_jdk_42_method_66_code_15 : decode jdk_42_method_66_code 15 = .ok (.checkcast 10, 3) := by decide +kernel
theorem d_jdk_42_method_66_code_18 : decode jdk_42_method_66_code 18 = .ok (.astore_n 2, 1) := by decide +kernel
theorem d_jdk_42_method_66_code_19 : decode jdk_42_method_66_code 19 = .ok (.getstatic 38, 3) := by decide +kernel
theorem d_jdk_42_method_66_code_22 : decode jdk_42_method_66_code 22 = .ok (.ifCond .eq 14, 3) := by decide +kernel
theorem d_jdk_42_method_66_code_25 : decode jdk_42_method_66_code 25 = .ok (.aload_n 0, 1) := by decide +kernel
theorem d_jdk_42_method_66_code_26 : decode jdk_42_method_66_code 26 = .ok (.getfield 15, 3) := by decide +kernel
theorem d_jdk_42_method_66_code_29 : decode jdk_42_method_66_code 29 = .ok (.aload_n 2, 1) := by decide +kernel
theorem d_jdk_42_method_66_code_30 : decode jdk_42_method_66_code 30 = .ok (.getfield 15, 3) := by decide +kernel
theorem d_jdk_42_method_66_code_33 : decode jdk_42_method_66_code 33 = .ok (.if_icmp .ne 21, 3) := by decide +kernel
theorem d_jdk_42_method_66_code_36 : decode jdk_42_method_66_code 36 = .ok (.aload_n 0, 1) := by decide +kernel
theorem d_jdk_42_method_66_code_37 : decode jdk_42_method_66_code 37 = .ok (.getfield 9, 3) := by decide +kernel
theorem d_jdk_42_method_66_code_40 : decode jdk_42_method_66_code 40 = .ok (.aload_n 2, 1) := by decide +kernel
theorem d_jdk_42_method_66_code_41 : decode jdk_42_method_66_code 41 = .ok (.getfield 9, 3) := by decide +kernel
theorem d_jdk_42_method_66_code_44 : decode jdk_42_method_66_code 44 = .ok (.invokestatic 541, 3) := by decide +kernel
theorem pd_285bB5bB29Z : parseMethodDescriptor "([B[B)Z" = some ⟨[(.array .byte), (.array .byte)], some .boolean⟩ := by decide +kernel
theorem d_jdk_42_method_66_code_47 : decode jdk_42_method_66_code 47 = .ok (.ifCond .eq 7, 3) := by decide +kernel
theorem d_jdk_42_method_66_code_50 : decode jdk_42_method_66_code 50 = .ok (.iconst 1, 1) := by decide +kernel
theorem d_jdk_42_method_66_code_51 : decode jdk_42_method_66_code 51 = .ok (.goto 4, 3) := by decide +kernel
theorem d_jdk_42_method_66_code_55 : decode jdk_42_method_66_code 55 = .ok (.ireturn, 1) := by decide +kernel
theorem pn_java_lang_String : plainName "java/lang/String" = true := by first | (simp [plainName, overriddenIn]; done) | decide +kernel
theorem d_jdk_37_method_2_code_0 : decode jdk_37_method_2_code 0 = .ok (.aload_n 0, 1) := by decide +kernel
theorem d_jdk_37_method_2_code_1 : decode jdk_37_method_2_code 1 = .ok (.getfield 7, 3) := by decide +kernel
theorem d_jdk_37_method_2_code_4 : decode jdk_37_method_2_code 4 = .ok (.ireturn, 1) := by decide +kernel
theorem pn_java_lang_Enum : plainName "java/lang/Enum" = true := by first | (simp [plainName, overriddenIn]; done) | decide +kernel
theorem d_prog_51_method_5_code_0 : decode prog_51_method_5_code 0 = .ok (.aload_n 0, 1) := by decide +kernel
theorem d_prog_51_method_5_code_1 : decode prog_51_method_5_code 1 = .ok (.invokevirtual 49, 3) := by decide +kernel
theorem pd_2829I : parseMethodDescriptor "()I" = some ⟨[], some .int⟩ := by decide +kernel
theorem d_prog_51_method_5_code_4 : decode prog_51_method_5_code 4 = .ok (.lookupswitch 28 #[(0, 38), (1, 42)], 28) := by decide +kernel
theorem d_prog_51_method_5_code_42 : decode prog_51_method_5_code 42 = .ok (.aload_n 1, 1) := by decide +kernel
theorem d_prog_51_method_5_code_43 : decode prog_51_method_5_code 43 = .ok (.goto 4, 3) := by decide +kernel
theorem d_prog_51_method_5_code_47 : decode prog_51_method_5_code 47 = .ok (.areturn, 1) := by decide +kernel
theorem pn_einwilligung_wordings_Language : plainName "einwilligung/wordings/Language" = true := by first | (simp [plainName, overriddenIn]; done) | decide +kernel
theorem d_prog_27_method_4_code_0 : decode prog_27_method_4_code 0 = .ok (.aload_n 1, 1) := by decide +kernel
theorem d_prog_27_method_4_code_1 : decode prog_27_method_4_code 1 = .ok (.aload_n 0, 1) := by decide +kernel
theorem d_prog_27_method_4_code_2 : decode prog_27_method_4_code 2 = .ok (.getfield 29, 3) := by decide +kernel
theorem d_prog_27_method_4_code_5 : decode prog_27_method_4_code 5 = .ok (.aload_n 0, 1) := by decide +kernel
theorem d_prog_27_method_4_code_6 : decode prog_27_method_4_code 6 = .ok (.getfield 33, 3) := by decide +kernel
theorem d_prog_27_method_4_code_9 : decode prog_27_method_4_code 9 = .ok (.invokevirtual 36, 3) := by decide +kernel
theorem pd_28Ljava2flang2fString3bLjava2flang2fString3b29Ljava2flang2fString3b : parseMethodDescriptor "(Ljava/lang/String;Ljava/lang/String;)Ljava/lang/String;" = some ⟨[(.object "java/lang/String"), (.object "java/lang/String")], some (.object "java/lang/String")⟩ := by decide +kernel
theorem d_prog_27_method_4_code_12 : decode prog_27_method_4_code 12 = .ok (.areturn, 1) := by decide +kernel
theorem pn_einwilligung_ledger_Channel : plainName "einwilligung/ledger/Channel" = true := by first | (simp [plainName, overriddenIn]; done) | decide +kernel
theorem d_prog_51_method_5_code_46 : decode prog_51_method_5_code 46 = .ok (.aload_n 2, 1) := by decide +kernel
theorem pd_28Leinwilligung2fwordings2fLanguage3b29Ljava2flang2fString3b : parseMethodDescriptor "(Leinwilligung/wordings/Language;)Ljava/lang/String;" = some ⟨[(.object "einwilligung/wordings/Language")], some (.object "java/lang/String")⟩ := by decide +kernel
theorem pd_28Ljava2flang2fObject3b29Z : parseMethodDescriptor "(Ljava/lang/Object;)Z" = some ⟨[(.object "java/lang/Object")], some .boolean⟩ := by decide +kernel
theorem pn_einwilligung_ledger_ChannelLabelPinLaw : plainName "einwilligung/ledger/ChannelLabelPinLaw" = true := by first | (simp [plainName, overriddenIn]; done) | decide +kernel
theorem ef_rmLat_SMS (x0 : Addr) (x1 : Addr) (m : MethodId) : entryFrame m #[(.ref x0), (.ref x1)] 3 = mkF m 0 #[.val (.ref x0), .val (.ref x1), .unset] [] := by first | (simp [entryFrame, mkF, argsToLocals, Value.category]; done) | rfl
set_option maxRecDepth 65536 in
set_option maxHeartbeats 40000000 in
theorem rmLat_SMS (l : Launch) (Z : State) (a0 : Array Value) (hw : ∀ d ∈ tables_1, d.before a0 Z = true) (t1 t2 : Addr) (k1 k2 : ClassId) (h0 : Heap) (B1 : Arv Z h0 t1 k1 .byte (3 : Int32) [(.int (83 : Int32)), (.int (77 : Int32)), (.int (83 : Int32))] (.int (0 : Int32))) (B2 : Arv Z h0 t2 k2 .byte (3 : Int32) [(.int (83 : Int32)), (.int (77 : Int32)), (.int (83 : Int32))] (.int (0 : Int32))) :
    Does l Z (⟨"java/lang/StringLatin1", "equals", "([B[B)Z"⟩ : MethodName) jdk_43_method_13_code 3 (some .boolean) [] ({ frames := 0, cells := 0, slots := 0, locals := 0 } : Room) #[(.ref t1), (.ref t2)] h0 (Val (some (.int (1 : Int32))) h0) := by
  refine Does.intro pn_java_lang_StringLatin1 (ef_rmLat_SMS t1 t2) ?_
  intro p e s m below meth c s₁ hx hby hml hown hnm hret hlk hZ e0 X0
  show Go p e below _ s₁ (mkF m 0 #[.val (.ref t1), .val (.ref t2), .unset] [])
  refine Go.st (fun _ h => XS.aloadN X0.here hx rfl (hb hby d_jdk_43_method_13_code_0) rfl rfl h) ?_
  show Go p e below _ s₁ (mkF m 1 #[.val (.ref t1), .val (.ref t2), .unset] [(.ref t1)])
  refine Go.st (own_len X0 hx hZ e0 B1 rfl rfl (hb hby d_jdk_43_method_13_code_1)) ?_
  show Go p e below _ s₁ (mkF m 2 #[.val (.ref t1), .val (.ref t2), .unset] [(.int (3 : Int32))])
  refine Go.st (fun _ h => XS.aloadN X0.here hx rfl (hb hby d_jdk_43_method_13_code_2) rfl rfl h) ?_
  show Go p e below _ s₁ (mkF m 3 #[.val (.ref t1), .val (.ref t2), .unset] [(.ref t2), (.int (3 : Int32))])
  refine Go.st (own_len X0 hx hZ e0 B2 rfl rfl (hb hby d_jdk_43_method_13_code_3)) ?_
  show Go p e below _ s₁ (mkF m 4 #[.val (.ref t1), .val (.ref t2), .unset] [(.int (3 : Int32)), (.int (3 : Int32))])
  refine Go.st (fun _ h => XS.icmpNo X0.here hx rfl (hb hby d_jdk_43_method_13_code_4) rfl (by decide) h) ?_
  show Go p e below _ s₁ (mkF m 7 #[.val (.ref t1), .val (.ref t2), .unset] [])
  refine Go.st (fun _ h => XT.iconstV X0.here hx rfl (0 : Int32) (hb hby d_jdk_43_method_13_code_7) (by decide) h) ?_
  show Go p e below _ s₁ (mkF m 8 #[.val (.ref t1), .val (.ref t2), .unset] [(.int (0 : Int32))])
  refine Go.st (fun _ h => XS.istoreN X0.here hx rfl (hb hby d_jdk_43_method_13_code_8) rfl (l' := #[.val (.ref t1), .val (.ref t2), .val (.int (0 : Int32))]) rfl h) ?_
  show Go p e below _ s₁ (mkF m 9 #[.val (.ref t1), .val (.ref t2), .val (.int (0 : Int32))] [])
  refine Go.st (fun _ h => XS.iloadN X0.here hx rfl (hb hby d_jdk_43_method_13_code_9) rfl h) ?_
  show Go p e below _ s₁ (mkF m 10 #[.val (.ref t1), .val (.ref t2), .val (.int (0 : Int32))] [(.int (0 : Int32))])
  refine Go.st (fun _ h => XS.aloadN X0.here hx rfl (hb hby d_jdk_43_method_13_code_10) rfl rfl h) ?_
  show Go p e below _ s₁ (mkF m 11 #[.val (.ref t1), .val (.ref t2), .val (.int (0 : Int32))] [(.ref t1), (.int (0 : Int32))])
  refine Go.st (own_len X0 hx hZ e0 B1 rfl rfl (hb hby d_jdk_43_method_13_code_11)) ?_
  show Go p e below _ s₁ (mkF m 12 #[.val (.ref t1), .val (.ref t2), .val (.int (0 : Int32))] [(.int (3 : Int32)), (.int (0 : Int32))])
  refine Go.st (fun _ h => XS.icmpNo X0.here hx rfl (hb hby d_jdk_43_method_13_code_12) rfl (by decide) h) ?_
  show Go p e below _ s₁ (mkF m 15 #[.val (.ref t1), .val (.ref t2), .val (.int (0 : Int32))] [])
  refine Go.st (fun _ h => XS.aloadN X0.here hx rfl (hb hby d_jdk_43_method_13_code_15) rfl rfl h) ?_
  show Go p e below _ s₁ (mkF m 16 #[.val (.ref t1), .val (.ref t2), .val (.int (0 : Int32))] [(.ref t1)])
  refine Go.st (fun _ h => XS.iloadN X0.here hx rfl (hb hby d_jdk_43_method_13_code_16) rfl h) ?_
  show Go p e below _ s₁ (mkF m 17 #[.val (.ref t1), .val (.ref t2), .val (.int (0 : Int32))] [(.int (0 : Int32)), (.ref t1)])
  refine Go.st (own_ldB X0 hx hZ e0 B1 (by decide) (by decide) rfl rfl rfl (hb hby d_jdk_43_method_13_code_17)) ?_
  show Go p e below _ s₁ (mkF m 18 #[.val (.ref t1), .val (.ref t2), .val (.int (0 : Int32))] [(.int (83 : Int32))])
  refine Go.st (fun _ h => XS.aloadN X0.here hx rfl (hb hby d_jdk_43_method_13_code_18) rfl rfl h) ?_
  show Go p e below _ s₁ (mkF m 19 #[.val (.ref t1), .val (.ref t2), .val (.int (0 : Int32))] [(.ref t2), (.int (83 : Int32))])
  refine Go.st (fun _ h => XS.iloadN X0.here hx rfl (hb hby d_jdk_43_method_13_code_19) rfl h) ?_
  show Go p e below _ s₁ (mkF m 20 #[.val (.ref t1), .val (.ref t2), .val (.int (0 : Int32))] [(.int (0 : Int32)), (.ref t2), (.int (83 : Int32))])
  refine Go.st (own_ldB X0 hx hZ e0 B2 (by decide) (by decide) rfl rfl rfl (hb hby d_jdk_43_method_13_code_20)) ?_
  show Go p e below _ s₁ (mkF m 21 #[.val (.ref t1), .val (.ref t2), .val (.int (0 : Int32))] [(.int (83 : Int32)), (.int (83 : Int32))])
  refine Go.st (fun _ h => XS.icmpYes X0.here hx rfl (pc0 := 21) (pc' := 26) rfl (hb hby d_jdk_43_method_13_code_21) rfl (by decide) (by decide) (by decide) h) ?_
  show Go p e below _ s₁ (mkF m 26 #[.val (.ref t1), .val (.ref t2), .val (.int (0 : Int32))] [])
  refine Go.st (fun _ h => XT.iincV X0.here hx rfl (1 : Int32) (hb hby d_jdk_43_method_13_code_26) (by decide) rfl (l' := #[.val (.ref t1), .val (.ref t2), .val (.int ((0 : Int32) + (1 : Int32)))]) rfl h) ?_
  show Go p e below _ s₁ (mkF m 29 #[.val (.ref t1), .val (.ref t2), .val (.int ((0 : Int32) + (1 : Int32)))] [])
  refine Go.st (fun _ h => XS.goto X0.here hx rfl (pc0 := 29) (pc' := 9) rfl (hb hby d_jdk_43_method_13_code_29) (by decide) (by decide) h) ?_
  show Go p e below _ s₁ (mkF m 9 #[.val (.ref t1), .val (.ref t2), .val (.int ((0 : Int32) + (1 : Int32)))] [])
  refine Go.st (fun _ h => XS.iloadN X0.here hx rfl (hb hby d_jdk_43_method_13_code_9) rfl h) ?_
  show Go p e below _ s₁ (mkF m 10 #[.val (.ref t1), .val (.ref t2), .val (.int ((0 : Int32) + (1 : Int32)))] [(.int ((0 : Int32) + (1 : Int32)))])
  refine Go.st (fun _ h => XS.aloadN X0.here hx rfl (hb hby d_jdk_43_method_13_code_10) rfl rfl h) ?_
  show Go p e below _ s₁ (mkF m 11 #[.val (.ref t1), .val (.ref t2), .val (.int ((0 : Int32) + (1 : Int32)))] [(.ref t1), (.int ((0 : Int32) + (1 : Int32)))])
  refine Go.st (own_len X0 hx hZ e0 B1 rfl rfl (hb hby d_jdk_43_method_13_code_11)) ?_
  show Go p e below _ s₁ (mkF m 12 #[.val (.ref t1), .val (.ref t2), .val (.int ((0 : Int32) + (1 : Int32)))] [(.int (3 : Int32)), (.int ((0 : Int32) + (1 : Int32)))])
  refine Go.st (fun _ h => XS.icmpNo X0.here hx rfl (hb hby d_jdk_43_method_13_code_12) rfl (by decide) h) ?_
  show Go p e below _ s₁ (mkF m 15 #[.val (.ref t1), .val (.ref t2), .val (.int ((0 : Int32) + (1 : Int32)))] [])
  refine Go.st (fun _ h => XS.aloadN X0.here hx rfl (hb hby d_jdk_43_method_13_code_15) rfl rfl h) ?_
  show Go p e below _ s₁ (mkF m 16 #[.val (.ref t1), .val (.ref t2), .val (.int ((0 : Int32) + (1 : Int32)))] [(.ref t1)])
  refine Go.st (fun _ h => XS.iloadN X0.here hx rfl (hb hby d_jdk_43_method_13_code_16) rfl h) ?_
  show Go p e below _ s₁ (mkF m 17 #[.val (.ref t1), .val (.ref t2), .val (.int ((0 : Int32) + (1 : Int32)))] [(.int ((0 : Int32) + (1 : Int32))), (.ref t1)])
  refine Go.st (own_ldB X0 hx hZ e0 B1 (by decide) (by decide) rfl rfl rfl (hb hby d_jdk_43_method_13_code_17)) ?_
  show Go p e below _ s₁ (mkF m 18 #[.val (.ref t1), .val (.ref t2), .val (.int ((0 : Int32) + (1 : Int32)))] [(.int (77 : Int32))])
  refine Go.st (fun _ h => XS.aloadN X0.here hx rfl (hb hby d_jdk_43_method_13_code_18) rfl rfl h) ?_
  show Go p e below _ s₁ (mkF m 19 #[.val (.ref t1), .val (.ref t2), .val (.int ((0 : Int32) + (1 : Int32)))] [(.ref t2), (.int (77 : Int32))])
  refine Go.st (fun _ h => XS.iloadN X0.here hx rfl (hb hby d_jdk_43_method_13_code_19) rfl h) ?_
  show Go p e below _ s₁ (mkF m 20 #[.val (.ref t1), .val (.ref t2), .val (.int ((0 : Int32) + (1 : Int32)))] [(.int ((0 : Int32) + (1 : Int32))), (.ref t2), (.int (77 : Int32))])
  refine Go.st (own_ldB X0 hx hZ e0 B2 (by decide) (by decide) rfl rfl rfl (hb hby d_jdk_43_method_13_code_20)) ?_
  show Go p e below _ s₁ (mkF m 21 #[.val (.ref t1), .val (.ref t2), .val (.int ((0 : Int32) + (1 : Int32)))] [(.int (77 : Int32)), (.int (77 : Int32))])
  refine Go.st (fun _ h => XS.icmpYes X0.here hx rfl (pc0 := 21) (pc' := 26) rfl (hb hby d_jdk_43_method_13_code_21) rfl (by decide) (by decide) (by decide) h) ?_
  show Go p e below _ s₁ (mkF m 26 #[.val (.ref t1), .val (.ref t2), .val (.int ((0 : Int32) + (1 : Int32)))] [])
  refine Go.st (fun _ h => XT.iincV X0.here hx rfl (1 : Int32) (hb hby d_jdk_43_method_13_code_26) (by decide) rfl (l' := #[.val (.ref t1), .val (.ref t2), .val (.int (((0 : Int32) + (1 : Int32)) + (1 : Int32)))]) rfl h) ?_
  show Go p e below _ s₁ (mkF m 29 #[.val (.ref t1), .val (.ref t2), .val (.int (((0 : Int32) + (1 : Int32)) + (1 : Int32)))] [])
  refine Go.st (fun _ h => XS.goto X0.here hx rfl (pc0 := 29) (pc' := 9) rfl (hb hby d_jdk_43_method_13_code_29) (by decide) (by decide) h) ?_
  show Go p e below _ s₁ (mkF m 9 #[.val (.ref t1), .val (.ref t2), .val (.int (((0 : Int32) + (1 : Int32)) + (1 : Int32)))] [])
  refine Go.st (fun _ h => XS.iloadN X0.here hx rfl (hb hby d_jdk_43_method_13_code_9) rfl h) ?_
  show Go p e below _ s₁ (mkF m 10 #[.val (.ref t1), .val (.ref t2), .val (.int (((0 : Int32) + (1 : Int32)) + (1 : Int32)))] [(.int (((0 : Int32) + (1 : Int32)) + (1 : Int32)))])
  refine Go.st (fun _ h => XS.aloadN X0.here hx rfl (hb hby d_jdk_43_method_13_code_10) rfl rfl h) ?_
  show Go p e below _ s₁ (mkF m 11 #[.val (.ref t1), .val (.ref t2), .val (.int (((0 : Int32) + (1 : Int32)) + (1 : Int32)))] [(.ref t1), (.int (((0 : Int32) + (1 : Int32)) + (1 : Int32)))])
  refine Go.st (own_len X0 hx hZ e0 B1 rfl rfl (hb hby d_jdk_43_method_13_code_11)) ?_
  show Go p e below _ s₁ (mkF m 12 #[.val (.ref t1), .val (.ref t2), .val (.int (((0 : Int32) + (1 : Int32)) + (1 : Int32)))] [(.int (3 : Int32)), (.int (((0 : Int32) + (1 : Int32)) + (1 : Int32)))])
  refine Go.st (fun _ h => XS.icmpNo X0.here hx rfl (hb hby d_jdk_43_method_13_code_12) rfl (by decide) h) ?_
  show Go p e below _ s₁ (mkF m 15 #[.val (.ref t1), .val (.ref t2), .val (.int (((0 : Int32) + (1 : Int32)) + (1 : Int32)))] [])
  refine Go.st (fun _ h => XS.aloadN X0.here hx rfl (hb hby d_jdk_43_method_13_code_15) rfl rfl h) ?_
  show Go p e below _ s₁ (mkF m 16 #[.val (.ref t1), .val (.ref t2), .val (.int (((0 : Int32) + (1 : Int32)) + (1 : Int32)))] [(.ref t1)])
  refine Go.st (fun _ h => XS.iloadN X0.here hx rfl (hb hby d_jdk_43_method_13_code_16) rfl h) ?_
  show Go p e below _ s₁ (mkF m 17 #[.val (.ref t1), .val (.ref t2), .val (.int (((0 : Int32) + (1 : Int32)) + (1 : Int32)))] [(.int (((0 : Int32) + (1 : Int32)) + (1 : Int32))), (.ref t1)])
  refine Go.st (own_ldB X0 hx hZ e0 B1 (by decide) (by decide) rfl rfl rfl (hb hby d_jdk_43_method_13_code_17)) ?_
  show Go p e below _ s₁ (mkF m 18 #[.val (.ref t1), .val (.ref t2), .val (.int (((0 : Int32) + (1 : Int32)) + (1 : Int32)))] [(.int (83 : Int32))])
  refine Go.st (fun _ h => XS.aloadN X0.here hx rfl (hb hby d_jdk_43_method_13_code_18) rfl rfl h) ?_
  show Go p e below _ s₁ (mkF m 19 #[.val (.ref t1), .val (.ref t2), .val (.int (((0 : Int32) + (1 : Int32)) + (1 : Int32)))] [(.ref t2), (.int (83 : Int32))])
  refine Go.st (fun _ h => XS.iloadN X0.here hx rfl (hb hby d_jdk_43_method_13_code_19) rfl h) ?_
  show Go p e below _ s₁ (mkF m 20 #[.val (.ref t1), .val (.ref t2), .val (.int (((0 : Int32) + (1 : Int32)) + (1 : Int32)))] [(.int (((0 : Int32) + (1 : Int32)) + (1 : Int32))), (.ref t2), (.int (83 : Int32))])
  refine Go.st (own_ldB X0 hx hZ e0 B2 (by decide) (by decide) rfl rfl rfl (hb hby d_jdk_43_method_13_code_20)) ?_
  show Go p e below _ s₁ (mkF m 21 #[.val (.ref t1), .val (.ref t2), .val (.int (((0 : Int32) + (1 : Int32)) + (1 : Int32)))] [(.int (83 : Int32)), (.int (83 : Int32))])
  refine Go.st (fun _ h => XS.icmpYes X0.here hx rfl (pc0 := 21) (pc' := 26) rfl (hb hby d_jdk_43_method_13_code_21) rfl (by decide) (by decide) (by decide) h) ?_
  show Go p e below _ s₁ (mkF m 26 #[.val (.ref t1), .val (.ref t2), .val (.int (((0 : Int32) + (1 : Int32)) + (1 : Int32)))] [])
  refine Go.st (fun _ h => XT.iincV X0.here hx rfl (1 : Int32) (hb hby d_jdk_43_method_13_code_26) (by decide) rfl (l' := #[.val (.ref t1), .val (.ref t2), .val (.int ((((0 : Int32) + (1 : Int32)) + (1 : Int32)) + (1 : Int32)))]) rfl h) ?_
  show Go p e below _ s₁ (mkF m 29 #[.val (.ref t1), .val (.ref t2), .val (.int ((((0 : Int32) + (1 : Int32)) + (1 : Int32)) + (1 : Int32)))] [])
  refine Go.st (fun _ h => XS.goto X0.here hx rfl (pc0 := 29) (pc' := 9) rfl (hb hby d_jdk_43_method_13_code_29) (by decide) (by decide) h) ?_
  show Go p e below _ s₁ (mkF m 9 #[.val (.ref t1), .val (.ref t2), .val (.int ((((0 : Int32) + (1 : Int32)) + (1 : Int32)) + (1 : Int32)))] [])
  refine Go.st (fun _ h => XS.iloadN X0.here hx rfl (hb hby d_jdk_43_method_13_code_9) rfl h) ?_
  show Go p e below _ s₁ (mkF m 10 #[.val (.ref t1), .val (.ref t2), .val (.int ((((0 : Int32) + (1 : Int32)) + (1 : Int32)) + (1 : Int32)))] [(.int ((((0 : Int32) + (1 : Int32)) + (1 : Int32)) + (1 : Int32)))])
  refine Go.st (fun _ h => XS.aloadN X0.here hx rfl (hb hby d_jdk_43_method_13_code_10) rfl rfl h) ?_
  show Go p e below _ s₁ (mkF m 11 #[.val (.ref t1), .val (.ref t2), .val (.int ((((0 : Int32) + (1 : Int32)) + (1 : Int32)) + (1 : Int32)))] [(.ref t1), (.int ((((0 : Int32) + (1 : Int32)) + (1 : Int32)) + (1 : Int32)))])
  refine Go.st (own_len X0 hx hZ e0 B1 rfl rfl (hb hby d_jdk_43_method_13_code_11)) ?_
  show Go p e below _ s₁ (mkF m 12 #[.val (.ref t1), .val (.ref t2), .val (.int ((((0 : Int32) + (1 : Int32)) + (1 : Int32)) + (1 : Int32)))] [(.int (3 : Int32)), (.int ((((0 : Int32) + (1 : Int32)) + (1 : Int32)) + (1 : Int32)))])
  refine Go.st (fun _ h => XS.icmpYes X0.here hx rfl (pc0 := 12) (pc' := 32) rfl (hb hby d_jdk_43_method_13_code_12) rfl (by decide) (by decide) (by decide) h) ?_
  show Go p e below _ s₁ (mkF m 32 #[.val (.ref t1), .val (.ref t2), .val (.int ((((0 : Int32) + (1 : Int32)) + (1 : Int32)) + (1 : Int32)))] [])
  refine Go.st (fun _ h => XT.iconstV X0.here hx rfl (1 : Int32) (hb hby d_jdk_43_method_13_code_32) (by decide) h) ?_
  show Go p e below _ s₁ (mkF m 33 #[.val (.ref t1), .val (.ref t2), .val (.int ((((0 : Int32) + (1 : Int32)) + (1 : Int32)) + (1 : Int32)))] [(.int (1 : Int32))])
  refine Go.retZ X0 hx hlk hret rfl (hb hby d_jdk_43_method_13_code_33) (by decide) (by decide) ?_
  exact ⟨rfl, rfl, e0⟩
theorem ef_rmEq_SMS (x0 : Addr) (x1 : Addr) (m : MethodId) : entryFrame m #[(.ref x0), (.ref x1)] 3 = mkF m 0 #[.val (.ref x0), .val (.ref x1), .unset] [] := by first | (simp [entryFrame, mkF, argsToLocals, Value.category]; done) | rfl
set_option maxRecDepth 65536 in
set_option maxHeartbeats 40000000 in
theorem rmEq_SMS (l : Launch) (Z : State) (a0 : Array Value) (hw : ∀ d ∈ tables_1, d.before a0 Z = true) (g1 g2 t1 t2 : Addr) (k1 k2 : ClassId) (zc : Int32) (h0 : Heap) (E_g1 : Exa Z h0 g1 "java/lang/String") (C_g1 : Fld Z h0 g1 "java/lang/String" "coder" "B" (.int (0 : Int32))) (V_g1 : Fld Z h0 g1 "java/lang/String" "value" "[B" (.ref t1)) (E_g2 : Exa Z h0 g2 "java/lang/String") (C_g2 : Fld Z h0 g2 "java/lang/String" "coder" "B" (.int (0 : Int32))) (V_g2 : Fld Z h0 g2 "java/lang/String" "value" "[B" (.ref t2)) (B1 : Arv Z h0 t1 k1 .byte (3 : Int32) [(.int (83 : Int32)), (.int (77 : Int32)), (.int (83 : Int32))] (.int (0 : Int32))) (B2 : Arv Z h0 t2 k2 .byte (3 : Int32) [(.int (83 : Int32)), (.int (77 : Int32)), (.int (83 : Int32))] (.int (0 : Int32))) (S_CS : Sta Z h0 "java/lang/String" "COMPACT_STRINGS" "Z" (.int zc)) (hzc : ¬ zc = (0 : Int32)) :
    Does l Z (⟨"java/lang/String", "equals", "(Ljava/lang/Object;)Z"⟩ : MethodName) jdk_42_method_66_code 3 (some .boolean) [] ({ frames := 1, cells := 0, slots := 0, locals := 14 } : Room) #[(.ref g1), (.ref g2)] h0 (Val (some (.int (1 : Int32))) h0) := by
  refine Does.intro pn_java_lang_String (ef_rmEq_SMS g1 g2) ?_
  intro p e s m below meth c s₁ hx hby hml hown hnm hret hlk hZ e0 X0
  show Go p e below _ s₁ (mkF m 0 #[.val (.ref g1), .val (.ref g2), .unset] [])
  refine Go.st (fun _ h => XS.aloadN X0.here hx rfl (hb hby d_jdk_42_method_66_code_0) rfl rfl h) ?_
  show Go p e below _ s₁ (mkF m 1 #[.val (.ref g1), .val (.ref g2), .unset] [(.ref g1)])
  refine Go.st (fun _ h => XS.aloadN X0.here hx rfl (hb hby d_jdk_42_method_66_code_1) rfl rfl h) ?_
  show Go p e below _ s₁ (mkF m 2 #[.val (.ref g1), .val (.ref g2), .unset] [(.ref g2), (.ref g1)])
  by_cases hc1 : g1 = g2
  · refine Go.st (fun _ h => XT.acmpNo X0.here hx rfl (hb hby d_jdk_42_method_66_code_2) rfl rfl rfl ((own_aeq hc1).2) h) ?_
    show Go p e below _ s₁ (mkF m 5 #[.val (.ref g1), .val (.ref g2), .unset] [])
    refine Go.st (fun _ h => XT.iconstV X0.here hx rfl (1 : Int32) (hb hby d_jdk_42_method_66_code_5) (by decide) h) ?_
    show Go p e below _ s₁ (mkF m 6 #[.val (.ref g1), .val (.ref g2), .unset] [(.int (1 : Int32))])
    refine Go.retZ X0 hx hlk hret rfl (hb hby d_jdk_42_method_66_code_6) (by decide) (by decide) ?_
    exact ⟨rfl, rfl, e0⟩
  · refine Go.st (fun _ h => XT.acmpYes X0.here hx rfl (pc0 := 2) (pc' := 7) rfl (hb hby d_jdk_42_method_66_code_2) rfl rfl rfl ((own_ane hc1).2) (by decide) (by decide) h) ?_
    show Go p e below _ s₁ (mkF m 7 #[.val (.ref g1), .val (.ref g2), .unset] [])
    refine Go.st (fun _ h => XS.aloadN X0.here hx rfl (hb hby d_jdk_42_method_66_code_7) rfl rfl h) ?_
    show Go p e below _ s₁ (mkF m 8 #[.val (.ref g1), .val (.ref g2), .unset] [(.ref g2)])
    obtain ⟨T2, X2, e2, st2⟩ := instY X0 hx hZ hown (hw _ (List.mem_of_getElem? (i := 42) rfl)) e0 (Ins.self E_g2) (g := (mkF m 8 #[.val (.ref g1), .val (.ref g2), .unset] [(.ref g2)])) rfl rfl (hb hby d_jdk_42_method_66_code_8)
    refine Go.st st2 ?_
    show Go p e below _ T2 (mkF m 11 #[.val (.ref g1), .val (.ref g2), .unset] [(.int (1 : Int32))])
    refine Go.st (fun _ h => XS.ifNo X2.here hx rfl (hb hby d_jdk_42_method_66_code_11) rfl (by decide) h) ?_
    show Go p e below _ T2 (mkF m 14 #[.val (.ref g1), .val (.ref g2), .unset] [])
    refine Go.st (fun _ h => XS.aloadN X2.here hx rfl (hb hby d_jdk_42_method_66_code_14) rfl rfl h) ?_
    show Go p e below _ T2 (mkF m 15 #[.val (.ref g1), .val (.ref g2), .unset] [(.ref g2)])
    obtain ⟨T3, X3, e3, st3⟩ := castY X2 hx hZ hown (hw _ (List.mem_of_getElem? (i := 42) rfl)) e2 (Ins.self E_g2) (g := (mkF m 15 #[.val (.ref g1), .val (.ref g2), .unset] [(.ref g2)])) rfl rfl (hb hby d_jdk_42_method_66_code_15)
    refine Go.st st3 ?_
    show Go p e below _ T3 (mkF m 18 #[.val (.ref g1), .val (.ref g2), .unset] [(.ref g2)])
    refine Go.st (fun _ h => XS.astoreN X3.here hx rfl (hb hby d_jdk_42_method_66_code_18) rfl rfl (l' := #[.val (.ref g1), .val (.ref g2), .val (.ref g2)]) rfl h) ?_
    show Go p e below _ T3 (mkF m 19 #[.val (.ref g1), .val (.ref g2), .val (.ref g2)] [])
    obtain ⟨T4, X4, e4, st4⟩ := getS2 X3 hx hZ hown (host := "") (Or.inl (hw _ (List.mem_of_getElem? (i := 44) rfl))) Via.refl e3 S_CS (g := (mkF m 19 #[.val (.ref g1), .val (.ref g2), .val (.ref g2)] [])) rfl (hb hby d_jdk_42_method_66_code_19)
    refine Go.st st4 ?_
    show Go p e below _ T4 (mkF m 22 #[.val (.ref g1), .val (.ref g2), .val (.ref g2)] [(.int zc)])
    refine Go.st (fun _ h => XS.ifNo X4.here hx rfl (hb hby d_jdk_42_method_66_code_22) rfl ((if0 _ _).trans (feq (hzc : ¬ (zc = (0 : Int32)))).1) h) ?_
    show Go p e below _ T4 (mkF m 25 #[.val (.ref g1), .val (.ref g2), .val (.ref g2)] [])
    refine Go.st (fun _ h => XS.aloadN X4.here hx rfl (hb hby d_jdk_42_method_66_code_25) rfl rfl h) ?_
    show Go p e below _ T4 (mkF m 26 #[.val (.ref g1), .val (.ref g2), .val (.ref g2)] [(.ref g1)])
    obtain ⟨T5, X5, e5, st5⟩ := getF X4 hx hZ hown (host := "") (Or.inl (hw _ (List.mem_of_getElem? (i := 45) rfl))) Via.refl e4 C_g1 (g := (mkF m 26 #[.val (.ref g1), .val (.ref g2), .val (.ref g2)] [(.ref g1)])) rfl rfl (hb hby d_jdk_42_method_66_code_26)
    refine Go.st st5 ?_
    show Go p e below _ T5 (mkF m 29 #[.val (.ref g1), .val (.ref g2), .val (.ref g2)] [(.int (0 : Int32))])
    refine Go.st (fun _ h => XS.aloadN X5.here hx rfl (hb hby d_jdk_42_method_66_code_29) rfl rfl h) ?_
    show Go p e below _ T5 (mkF m 30 #[.val (.ref g1), .val (.ref g2), .val (.ref g2)] [(.ref g2), (.int (0 : Int32))])
    obtain ⟨T6, X6, e6, st6⟩ := getF X5 hx hZ hown (host := "") (Or.inl (hw _ (List.mem_of_getElem? (i := 45) rfl))) Via.refl e5 C_g2 (g := (mkF m 30 #[.val (.ref g1), .val (.ref g2), .val (.ref g2)] [(.ref g2), (.int (0 : Int32))])) rfl rfl (hb hby d_jdk_42_method_66_code_30)
    refine Go.st st6 ?_
    show Go p e below _ T6 (mkF m 33 #[.val (.ref g1), .val (.ref g2), .val (.ref g2)] [(.int (0 : Int32)), (.int (0 : Int32))])
    refine Go.st (fun _ h => XS.icmpNo X6.here hx rfl (hb hby d_jdk_42_method_66_code_33) rfl (by decide) h) ?_
    show Go p e below _ T6 (mkF m 36 #[.val (.ref g1), .val (.ref g2), .val (.ref g2)] [])
    refine Go.st (fun _ h => XS.aloadN X6.here hx rfl (hb hby d_jdk_42_method_66_code_36) rfl rfl h) ?_
    show Go p e below _ T6 (mkF m 37 #[.val (.ref g1), .val (.ref g2), .val (.ref g2)] [(.ref g1)])
    obtain ⟨T7, X7, e7, st7⟩ := getF X6 hx hZ hown (host := "") (Or.inl (hw _ (List.mem_of_getElem? (i := 46) rfl))) Via.refl e6 V_g1 (g := (mkF m 37 #[.val (.ref g1), .val (.ref g2), .val (.ref g2)] [(.ref g1)])) rfl rfl (hb hby d_jdk_42_method_66_code_37)
    refine Go.st st7 ?_
    show Go p e below _ T7 (mkF m 40 #[.val (.ref g1), .val (.ref g2), .val (.ref g2)] [(.ref t1)])
    refine Go.st (fun _ h => XS.aloadN X7.here hx rfl (hb hby d_jdk_42_method_66_code_40) rfl rfl h) ?_
    show Go p e below _ T7 (mkF m 41 #[.val (.ref g1), .val (.ref g2), .val (.ref g2)] [(.ref g2), (.ref t1)])
    obtain ⟨T8, X8, e8, st8⟩ := getF X7 hx hZ hown (host := "") (Or.inl (hw _ (List.mem_of_getElem? (i := 46) rfl))) Via.refl e7 V_g2 (g := (mkF m 41 #[.val (.ref g1), .val (.ref g2), .val (.ref g2)] [(.ref g2), (.ref t1)])) rfl rfl (hb hby d_jdk_42_method_66_code_41)
    refine Go.st st8 ?_
    show Go p e below _ T8 (mkF m 44 #[.val (.ref g1), .val (.ref g2), .val (.ref g2)] [(.ref t2), (.ref t1)])
    obtain ⟨T9, X9, e9, st9⟩ := own_still rfl rfl (Does.static (y := (⟨"java/lang/StringLatin1", "equals", "([B[B)Z"⟩ : MethodName)) (g := (mkF m 44 #[.val (.ref g1), .val (.ref g2), .val (.ref g2)] [(.ref t2), (.ref t1)])) (rmLat_SMS l Z a0 hw t1 t2 k1 k2 h0 B1 B2) X8 hx hZ hown e8 (hw _ (List.mem_of_getElem? (i := 47) rfl)) (hw _ (List.mem_of_getElem? (i := 48) rfl)) (hw _ (List.mem_of_getElem? (i := 49) rfl)) (hw _ (List.mem_of_getElem? (i := 50) rfl)) (by decide) rfl (by rw [hml]; rfl) (argsL := [(.ref t1), (.ref t2)]) (rest := []) (lenOf pd_285bB5bB29Z rfl) rfl (hb hby d_jdk_42_method_66_code_44) (W := 0) (by show 2 * 0 + _ ≤ _; exact Nat.le_of_eq rfl) (by decide) (by decide) (by decide) (by decide))
    refine Go.st st9 ?_
    show Go p e below _ T9 (mkF m 47 #[.val (.ref g1), .val (.ref g2), .val (.ref g2)] [(.int (1 : Int32))])
    refine Go.st (fun _ h => XS.ifNo X9.here hx rfl (hb hby d_jdk_42_method_66_code_47) rfl (by decide) h) ?_
    show Go p e below _ T9 (mkF m 50 #[.val (.ref g1), .val (.ref g2), .val (.ref g2)] [])
    refine Go.st (fun _ h => XT.iconstV X9.here hx rfl (1 : Int32) (hb hby d_jdk_42_method_66_code_50) (by decide) h) ?_
    show Go p e below _ T9 (mkF m 51 #[.val (.ref g1), .val (.ref g2), .val (.ref g2)] [(.int (1 : Int32))])
    refine Go.st (fun _ h => XS.goto X9.here hx rfl (pc0 := 51) (pc' := 55) rfl (hb hby d_jdk_42_method_66_code_51) (by decide) (by decide) h) ?_
    show Go p e below _ T9 (mkF m 55 #[.val (.ref g1), .val (.ref g2), .val (.ref g2)] [(.int (1 : Int32))])
    refine Go.retZ X9 hx hlk hret rfl (hb hby d_jdk_42_method_66_code_55) (by decide) (by decide) ?_
    exact ⟨rfl, rfl, e9⟩
theorem ef_rmLat_email (x0 : Addr) (x1 : Addr) (m : MethodId) : entryFrame m #[(.ref x0), (.ref x1)] 3 = mkF m 0 #[.val (.ref x0), .val (.ref x1), .unset] [] := by first | (simp [entryFrame, mkF, argsToLocals, Value.category]; done) | rfl
set_option maxRecDepth 65536 in
set_option maxHeartbeats 40000000 in
theorem rmLat_email (l : Launch) (Z : State) (a0 : Array Value) (hw : ∀ d ∈ tables_1, d.before a0 Z = true) (t1 t2 : Addr) (k1 k2 : ClassId) (h0 : Heap) (B1 : Arv Z h0 t1 k1 .byte (6 : Int32) [(.int (101 : Int32)), (.int (45 : Int32)), (.int (109 : Int32)), (.int (97 : Int32)), (.int (105 : Int32)), (.int (108 : Int32))] (.int (0 : Int32))) (B2 : Arv Z h0 t2 k2 .byte (6 : Int32) [(.int (101 : Int32)), (.int (45 : Int32)), (.int (109 : Int32)), (.int (97 : Int32)), (.int (105 : Int32)), (.int (108 : Int32))] (.int (0 : Int32))) :
    Does l Z (⟨"java/lang/StringLatin1", "equals", "([B[B)Z"⟩ : MethodName) jdk_43_method_13_code 3 (some .boolean) [] ({ frames := 0, cells := 0, slots := 0, locals := 0 } : Room) #[(.ref t1), (.ref t2)] h0 (Val (some (.int (1 : Int32))) h0) := by
  refine Does.intro pn_java_lang_StringLatin1 (ef_rmLat_email t1 t2) ?_
  intro p e s m below meth c s₁ hx hby hml hown hnm hret hlk hZ e0 X0
  show Go p e below _ s₁ (mkF m 0 #[.val (.ref t1), .val (.ref t2), .unset] [])
  refine Go.st (fun _ h => XS.aloadN X0.here hx rfl (hb hby d_jdk_43_method_13_code_0) rfl rfl h) ?_
  show Go p e below _ s₁ (mkF m 1 #[.val (.ref t1), .val (.ref t2), .unset] [(.ref t1)])
  refine Go.st (own_len X0 hx hZ e0 B1 rfl rfl (hb hby d_jdk_43_method_13_code_1)) ?_
  show Go p e below _ s₁ (mkF m 2 #[.val (.ref t1), .val (.ref t2), .unset] [(.int (6 : Int32))])
  refine Go.st (fun _ h => XS.aloadN X0.here hx rfl (hb hby d_jdk_43_method_13_code_2) rfl rfl h) ?_
  show Go p e below _ s₁ (mkF m 3 #[.val (.ref t1), .val (.ref t2), .unset] [(.ref t2), (.int (6 : Int32))])
  refine Go.st (own_len X0 hx hZ e0 B2 rfl rfl (hb hby d_jdk_43_method_13_code_3)) ?_
  show Go p e below _ s₁ (mkF m 4 #[.val (.ref t1), .val (.ref t2), .unset] [(.int (6 : Int32)), (.int (6 : Int32))])
  refine Go.st (fun _ h => XS.icmpNo X0.here hx rfl (hb hby d_jdk_43_method_13_code_4) rfl (by decide) h) ?_
  show Go p e below _ s₁ (mkF m 7 #[.val (.ref t1), .val (.ref t2), .unset] [])
  refine Go.st (fun _ h => XT.iconstV X0.here hx rfl (0 : Int32) (hb hby d_jdk_43_method_13_code_7) (by decide) h) ?_
  show Go p e below _ s₁ (mkF m 8 #[.val (.ref t1), .val (.ref t2), .unset] [(.int (0 : Int32))])
  refine Go.st (fun _ h => XS.istoreN X0.here hx rfl (hb hby d_jdk_43_method_13_code_8) rfl (l' := #[.val (.ref t1), .val (.ref t2), .val (.int (0 : Int32))]) rfl h) ?_
  show Go p e below _ s₁ (mkF m 9 #[.val (.ref t1), .val (.ref t2), .val (.int (0 : Int32))] [])
  refine Go.st (fun _ h => XS.iloadN X0.here hx rfl (hb hby d_jdk_43_method_13_code_9) rfl h) ?_
  show Go p e below _ s₁ (mkF m 10 #[.val (.ref t1), .val (.ref t2), .val (.int (0 : Int32))] [(.int (0 : Int32))])
  refine Go.st (fun _ h => XS.aloadN X0.here hx rfl (hb hby d_jdk_43_method_13_code_10) rfl rfl h) ?_
  show Go p e below _ s₁ (mkF m 11 #[.val (.ref t1), .val (.ref t2), .val (.int (0 : Int32))] [(.ref t1), (.int (0 : Int32))])
  refine Go.st (own_len X0 hx hZ e0 B1 rfl rfl (hb hby d_jdk_43_method_13_code_11)) ?_
  show Go p e below _ s₁ (mkF m 12 #[.val (.ref t1), .val (.ref t2), .val (.int (0 : Int32))] [(.int (6 : Int32)), (.int (0 : Int32))])
  refine Go.st (fun _ h => XS.icmpNo X0.here hx rfl (hb hby d_jdk_43_method_13_code_12) rfl (by decide) h) ?_
  show Go p e below _ s₁ (mkF m 15 #[.val (.ref t1), .val (.ref t2), .val (.int (0 : Int32))] [])
  refine Go.st (fun _ h => XS.aloadN X0.here hx rfl (hb hby d_jdk_43_method_13_code_15) rfl rfl h) ?_
  show Go p e below _ s₁ (mkF m 16 #[.val (.ref t1), .val (.ref t2), .val (.int (0 : Int32))] [(.ref t1)])
  refine Go.st (fun _ h => XS.iloadN X0.here hx rfl (hb hby d_jdk_43_method_13_code_16) rfl h) ?_
  show Go p e below _ s₁ (mkF m 17 #[.val (.ref t1), .val (.ref t2), .val (.int (0 : Int32))] [(.int (0 : Int32)), (.ref t1)])
  refine Go.st (own_ldB X0 hx hZ e0 B1 (by decide) (by decide) rfl rfl rfl (hb hby d_jdk_43_method_13_code_17)) ?_
  show Go p e below _ s₁ (mkF m 18 #[.val (.ref t1), .val (.ref t2), .val (.int (0 : Int32))] [(.int (101 : Int32))])
  refine Go.st (fun _ h => XS.aloadN X0.here hx rfl (hb hby d_jdk_43_method_13_code_18) rfl rfl h) ?_
  show Go p e below _ s₁ (mkF m 19 #[.val (.ref t1), .val (.ref t2), .val (.int (0 : Int32))] [(.ref t2), (.int (101 : Int32))])
  refine Go.st (fun _ h => XS.iloadN X0.here hx rfl (hb hby d_jdk_43_method_13_code_19) rfl h) ?_
  show Go p e below _ s₁ (mkF m 20 #[.val (.ref t1), .val (.ref t2), .val (.int (0 : Int32))] [(.int (0 : Int32)), (.ref t2), (.int (101 : Int32))])
  refine Go.st (own_ldB X0 hx hZ e0 B2 (by decide) (by decide) rfl rfl rfl (hb hby d_jdk_43_method_13_code_20)) ?_
  show Go p e below _ s₁ (mkF m 21 #[.val (.ref t1), .val (.ref t2), .val (.int (0 : Int32))] [(.int (101 : Int32)), (.int (101 : Int32))])
  refine Go.st (fun _ h => XS.icmpYes X0.here hx rfl (pc0 := 21) (pc' := 26) rfl (hb hby d_jdk_43_method_13_code_21) rfl (by decide) (by decide) (by decide) h) ?_
  show Go p e below _ s₁ (mkF m 26 #[.val (.ref t1), .val (.ref t2), .val (.int (0 : Int32))] [])
  refine Go.st (fun _ h => XT.iincV X0.here hx rfl (1 : Int32) (hb hby d_jdk_43_method_13_code_26) (by decide) rfl (l' := #[.val (.ref t1), .val (.ref t2), .val (.int ((0 : Int32) + (1 : Int32)))]) rfl h) ?_
  show Go p e below _ s₁ (mkF m 29 #[.val (.ref t1), .val (.ref t2), .val (.int ((0 : Int32) + (1 : Int32)))] [])
  refine Go.st (fun _ h => XS.goto X0.here hx rfl (pc0 := 29) (pc' := 9) rfl (hb hby d_jdk_43_method_13_code_29) (by decide) (by decide) h) ?_
  show Go p e below _ s₁ (mkF m 9 #[.val (.ref t1), .val (.ref t2), .val (.int ((0 : Int32) + (1 : Int32)))] [])
  refine Go.st (fun _ h => XS.iloadN X0.here hx rfl (hb hby d_jdk_43_method_13_code_9) rfl h) ?_
  show Go p e below _ s₁ (mkF m 10 #[.val (.ref t1), .val (.ref t2), .val (.int ((0 : Int32) + (1 : Int32)))] [(.int ((0 : Int32) + (1 : Int32)))])
  refine Go.st (fun _ h => XS.aloadN X0.here hx rfl (hb hby d_jdk_43_method_13_code_10) rfl rfl h) ?_
  show Go p e below _ s₁ (mkF m 11 #[.val (.ref t1), .val (.ref t2), .val (.int ((0 : Int32) + (1 : Int32)))] [(.ref t1), (.int ((0 : Int32) + (1 : Int32)))])
  refine Go.st (own_len X0 hx hZ e0 B1 rfl rfl (hb hby d_jdk_43_method_13_code_11)) ?_
  show Go p e below _ s₁ (mkF m 12 #[.val (.ref t1), .val (.ref t2), .val (.int ((0 : Int32) + (1 : Int32)))] [(.int (6 : Int32)), (.int ((0 : Int32) + (1 : Int32)))])
  refine Go.st (fun _ h => XS.icmpNo X0.here hx rfl (hb hby d_jdk_43_method_13_code_12) rfl (by decide) h) ?_
  show Go p e below _ s₁ (mkF m 15 #[.val (.ref t1), .val (.ref t2), .val (.int ((0 : Int32) + (1 : Int32)))] [])
  refine Go.st (fun _ h => XS.aloadN X0.here hx rfl (hb hby d_jdk_43_method_13_code_15) rfl rfl h) ?_
  show Go p e below _ s₁ (mkF m 16 #[.val (.ref t1), .val (.ref t2), .val (.int ((0 : Int32) + (1 : Int32)))] [(.ref t1)])
  refine Go.st (fun _ h => XS.iloadN X0.here hx rfl (hb hby d_jdk_43_method_13_code_16) rfl h) ?_
  show Go p e below _ s₁ (mkF m 17 #[.val (.ref t1), .val (.ref t2), .val (.int ((0 : Int32) + (1 : Int32)))] [(.int ((0 : Int32) + (1 : Int32))), (.ref t1)])
  refine Go.st (own_ldB X0 hx hZ e0 B1 (by decide) (by decide) rfl rfl rfl (hb hby d_jdk_43_method_13_code_17)) ?_
  show Go p e below _ s₁ (mkF m 18 #[.val (.ref t1), .val (.ref t2), .val (.int ((0 : Int32) + (1 : Int32)))] [(.int (45 : Int32))])
  refine Go.st (fun _ h => XS.aloadN X0.here hx rfl (hb hby d_jdk_43_method_13_code_18) rfl rfl h) ?_
  show Go p e below _ s₁ (mkF m 19 #[.val (.ref t1), .val (.ref t2), .val (.int ((0 : Int32) + (1 : Int32)))] [(.ref t2), (.int (45 : Int32))])
  refine Go.st (fun _ h => XS.iloadN X0.here hx rfl (hb hby d_jdk_43_method_13_code_19) rfl h) ?_
  show Go p e below _ s₁ (mkF m 20 #[.val (.ref t1), .val (.ref t2), .val (.int ((0 : Int32) + (1 : Int32)))] [(.int ((0 : Int32) + (1 : Int32))), (.ref t2), (.int (45 : Int32))])
  refine Go.st (own_ldB X0 hx hZ e0 B2 (by decide) (by decide) rfl rfl rfl (hb hby d_jdk_43_method_13_code_20)) ?_
  show Go p e below _ s₁ (mkF m 21 #[.val (.ref t1), .val (.ref t2), .val (.int ((0 : Int32) + (1 : Int32)))] [(.int (45 : Int32)), (.int (45 : Int32))])
  refine Go.st (fun _ h => XS.icmpYes X0.here hx rfl (pc0 := 21) (pc' := 26) rfl (hb hby d_jdk_43_method_13_code_21) rfl (by decide) (by decide) (by decide) h) ?_
  show Go p e below _ s₁ (mkF m 26 #[.val (.ref t1), .val (.ref t2), .val (.int ((0 : Int32) + (1 : Int32)))] [])
  refine Go.st (fun _ h => XT.iincV X0.here hx rfl (1 : Int32) (hb hby d_jdk_43_method_13_code_26) (by decide) rfl (l' := #[.val (.ref t1), .val (.ref t2), .val (.int (((0 : Int32) + (1 : Int32)) + (1 : Int32)))]) rfl h) ?_
  show Go p e below _ s₁ (mkF m 29 #[.val (.ref t1), .val (.ref t2), .val (.int (((0 : Int32) + (1 : Int32)) + (1 : Int32)))] [])
  refine Go.st (fun _ h => XS.goto X0.here hx rfl (pc0 := 29) (pc' := 9) rfl (hb hby d_jdk_43_method_13_code_29) (by decide) (by decide) h) ?_
  show Go p e below _ s₁ (mkF m 9 #[.val (.ref t1), .val (.ref t2), .val (.int (((0 : Int32) + (1 : Int32)) + (1 : Int32)))] [])
  refine Go.st (fun _ h => XS.iloadN X0.here hx rfl (hb hby d_jdk_43_method_13_code_9) rfl h) ?_
  show Go p e below _ s₁ (mkF m 10 #[.val (.ref t1), .val (.ref t2), .val (.int (((0 : Int32) + (1 : Int32)) + (1 : Int32)))] [(.int (((0 : Int32) + (1 : Int32)) + (1 : Int32)))])
  refine Go.st (fun _ h => XS.aloadN X0.here hx rfl (hb hby d_jdk_43_method_13_code_10) rfl rfl h) ?_
  show Go p e below _ s₁ (mkF m 11 #[.val (.ref t1), .val (.ref t2), .val (.int (((0 : Int32) + (1 : Int32)) + (1 : Int32)))] [(.ref t1), (.int (((0 : Int32) + (1 : Int32)) + (1 : Int32)))])
  refine Go.st (own_len X0 hx hZ e0 B1 rfl rfl (hb hby d_jdk_43_method_13_code_11)) ?_
  show Go p e below _ s₁ (mkF m 12 #[.val (.ref t1), .val (.ref t2), .val (.int (((0 : Int32) + (1 : Int32)) + (1 : Int32)))] [(.int (6 : Int32)), (.int (((0 : Int32) + (1 : Int32)) + (1 : Int32)))])
  refine Go.st (fun _ h => XS.icmpNo X0.here hx rfl (hb hby d_jdk_43_method_13_code_12) rfl (by decide) h) ?_
  show Go p e below _ s₁ (mkF m 15 #[.val (.ref t1), .val (.ref t2), .val (.int (((0 : Int32) + (1 : Int32)) + (1 : Int32)))] [])
  refine Go.st (fun _ h => XS.aloadN X0.here hx rfl (hb hby d_jdk_43_method_13_code_15) rfl rfl h) ?_
  show Go p e below _ s₁ (mkF m 16 #[.val (.ref t1), .val (.ref t2), .val (.int (((0 : Int32) + (1 : Int32)) + (1 : Int32)))] [(.ref t1)])
  refine Go.st (fun _ h => XS.iloadN X0.here hx rfl (hb hby d_jdk_43_method_13_code_16) rfl h) ?_
  show Go p e below _ s₁ (mkF m 17 #[.val (.ref t1), .val (.ref t2), .val (.int (((0 : Int32) + (1 : Int32)) + (1 : Int32)))] [(.int (((0 : Int32) + (1 : Int32)) + (1 : Int32))), (.ref t1)])
  refine Go.st (own_ldB X0 hx hZ e0 B1 (by decide) (by decide) rfl rfl rfl (hb hby d_jdk_43_method_13_code_17)) ?_
  show Go p e below _ s₁ (mkF m 18 #[.val (.ref t1), .val (.ref t2), .val (.int (((0 : Int32) + (1 : Int32)) + (1 : Int32)))] [(.int (109 : Int32))])
  refine Go.st (fun _ h => XS.aloadN X0.here hx rfl (hb hby d_jdk_43_method_13_code_18) rfl rfl h) ?_
  show Go p e below _ s₁ (mkF m 19 #[.val (.ref t1), .val (.ref t2), .val (.int (((0 : Int32) + (1 : Int32)) + (1 : Int32)))] [(.ref t2), (.int (109 : Int32))])
  refine Go.st (fun _ h => XS.iloadN X0.here hx rfl (hb hby d_jdk_43_method_13_code_19) rfl h) ?_
  show Go p e below _ s₁ (mkF m 20 #[.val (.ref t1), .val (.ref t2), .val (.int (((0 : Int32) + (1 : Int32)) + (1 : Int32)))] [(.int (((0 : Int32) + (1 : Int32)) + (1 : Int32))), (.ref t2), (.int (109 : Int32))])
  refine Go.st (own_ldB X0 hx hZ e0 B2 (by decide) (by decide) rfl rfl rfl (hb hby d_jdk_43_method_13_code_20)) ?_
  show Go p e below _ s₁ (mkF m 21 #[.val (.ref t1), .val (.ref t2), .val (.int (((0 : Int32) + (1 : Int32)) + (1 : Int32)))] [(.int (109 : Int32)), (.int (109 : Int32))])
  refine Go.st (fun _ h => XS.icmpYes X0.here hx rfl (pc0 := 21) (pc' := 26) rfl (hb hby d_jdk_43_method_13_code_21) rfl (by decide) (by decide) (by decide) h) ?_
  show Go p e below _ s₁ (mkF m 26 #[.val (.ref t1), .val (.ref t2), .val (.int (((0 : Int32) + (1 : Int32)) + (1 : Int32)))] [])
  refine Go.st (fun _ h => XT.iincV X0.here hx rfl (1 : Int32) (hb hby d_jdk_43_method_13_code_26) (by decide) rfl (l' := #[.val (.ref t1), .val (.ref t2), .val (.int ((((0 : Int32) + (1 : Int32)) + (1 : Int32)) + (1 : Int32)))]) rfl h) ?_
  show Go p e below _ s₁ (mkF m 29 #[.val (.ref t1), .val (.ref t2), .val (.int ((((0 : Int32) + (1 : Int32)) + (1 : Int32)) + (1 : Int32)))] [])
  refine Go.st (fun _ h => XS.goto X0.here hx rfl (pc0 := 29) (pc' := 9) rfl (hb hby d_jdk_43_method_13_code_29) (by decide) (by decide) h) ?_
  show Go p e below _ s₁ (mkF m 9 #[.val (.ref t1), .val (.ref t2), .val (.int ((((0 : Int32) + (1 : Int32)) + (1 : Int32)) + (1 : Int32)))] [])
  refine Go.st (fun _ h => XS.iloadN X0.here hx rfl (hb hby d_jdk_43_method_13_code_9) rfl h) ?_
  show Go p e below _ s₁ (mkF m 10 #[.val (.ref t1), .val (.ref t2), .val (.int ((((0 : Int32) + (1 : Int32)) + (1 : Int32)) + (1 : Int32)))] [(.int ((((0 : Int32) + (1 : Int32)) + (1 : Int32)) + (1 : Int32)))])
  refine Go.st (fun _ h => XS.aloadN X0.here hx rfl (hb hby d_jdk_43_method_13_code_10) rfl rfl h) ?_
  show Go p e below _ s₁ (mkF m 11 #[.val (.ref t1), .val (.ref t2), .val (.int ((((0 : Int32) + (1 : Int32)) + (1 : Int32)) + (1 : Int32)))] [(.ref t1), (.int ((((0 : Int32) + (1 : Int32)) + (1 : Int32)) + (1 : Int32)))])
  refine Go.st (own_len X0 hx hZ e0 B1 rfl rfl (hb hby d_jdk_43_method_13_code_11)) ?_
  show Go p e below _ s₁ (mkF m 12 #[.val (.ref t1), .val (.ref t2), .val (.int ((((0 : Int32) + (1 : Int32)) + (1 : Int32)) + (1 : Int32)))] [(.int (6 : Int32)), (.int ((((0 : Int32) + (1 : Int32)) + (1 : Int32)) + (1 : Int32)))])
  refine Go.st (fun _ h => XS.icmpNo X0.here hx rfl (hb hby d_jdk_43_method_13_code_12) rfl (by decide) h) ?_
  show Go p e below _ s₁ (mkF m 15 #[.val (.ref t1), .val (.ref t2), .val (.int ((((0 : Int32) + (1 : Int32)) + (1 : Int32)) + (1 : Int32)))] [])
  refine Go.st (fun _ h => XS.aloadN X0.here hx rfl (hb hby d_jdk_43_method_13_code_15) rfl rfl h) ?_
  show Go p e below _ s₁ (mkF m 16 #[.val (.ref t1), .val (.ref t2), .val (.int ((((0 : Int32) + (1 : Int32)) + (1 : Int32)) + (1 : Int32)))] [(.ref t1)])
  refine Go.st (fun _ h => XS.iloadN X0.here hx rfl (hb hby d_jdk_43_method_13_code_16) rfl h) ?_
  show Go p e below _ s₁ (mkF m 17 #[.val (.ref t1), .val (.ref t2), .val (.int ((((0 : Int32) + (1 : Int32)) + (1 : Int32)) + (1 : Int32)))] [(.int ((((0 : Int32) + (1 : Int32)) + (1 : Int32)) + (1 : Int32))), (.ref t1)])
  refine Go.st (own_ldB X0 hx hZ e0 B1 (by decide) (by decide) rfl rfl rfl (hb hby d_jdk_43_method_13_code_17)) ?_
  show Go p e below _ s₁ (mkF m 18 #[.val (.ref t1), .val (.ref t2), .val (.int ((((0 : Int32) + (1 : Int32)) + (1 : Int32)) + (1 : Int32)))] [(.int (97 : Int32))])
  refine Go.st (fun _ h => XS.aloadN X0.here hx rfl (hb hby d_jdk_43_method_13_code_18) rfl rfl h) ?_
  show Go p e below _ s₁ (mkF m 19 #[.val (.ref t1), .val (.ref t2), .val (.int ((((0 : Int32) + (1 : Int32)) + (1 : Int32)) + (1 : Int32)))] [(.ref t2), (.int (97 : Int32))])
  refine Go.st (fun _ h => XS.iloadN X0.here hx rfl (hb hby d_jdk_43_method_13_code_19) rfl h) ?_
  show Go p e below _ s₁ (mkF m 20 #[.val (.ref t1), .val (.ref t2), .val (.int ((((0 : Int32) + (1 : Int32)) + (1 : Int32)) + (1 : Int32)))] [(.int ((((0 : Int32) + (1 : Int32)) + (1 : Int32)) + (1 : Int32))), (.ref t2), (.int (97 : Int32))])
  refine Go.st (own_ldB X0 hx hZ e0 B2 (by decide) (by decide) rfl rfl rfl (hb hby d_jdk_43_method_13_code_20)) ?_
  show Go p e below _ s₁ (mkF m 21 #[.val (.ref t1), .val (.ref t2), .val (.int ((((0 : Int32) + (1 : Int32)) + (1 : Int32)) + (1 : Int32)))] [(.int (97 : Int32)), (.int (97 : Int32))])
  refine Go.st (fun _ h => XS.icmpYes X0.here hx rfl (pc0 := 21) (pc' := 26) rfl (hb hby d_jdk_43_method_13_code_21) rfl (by decide) (by decide) (by decide) h) ?_
  show Go p e below _ s₁ (mkF m 26 #[.val (.ref t1), .val (.ref t2), .val (.int ((((0 : Int32) + (1 : Int32)) + (1 : Int32)) + (1 : Int32)))] [])
  refine Go.st (fun _ h => XT.iincV X0.here hx rfl (1 : Int32) (hb hby d_jdk_43_method_13_code_26) (by decide) rfl (l' := #[.val (.ref t1), .val (.ref t2), .val (.int (((((0 : Int32) + (1 : Int32)) + (1 : Int32)) + (1 : Int32)) + (1 : Int32)))]) rfl h) ?_
  show Go p e below _ s₁ (mkF m 29 #[.val (.ref t1), .val (.ref t2), .val (.int (((((0 : Int32) + (1 : Int32)) + (1 : Int32)) + (1 : Int32)) + (1 : Int32)))] [])
  refine Go.st (fun _ h => XS.goto X0.here hx rfl (pc0 := 29) (pc' := 9) rfl (hb hby d_jdk_43_method_13_code_29) (by decide) (by decide) h) ?_
  show Go p e below _ s₁ (mkF m 9 #[.val (.ref t1), .val (.ref t2), .val (.int (((((0 : Int32) + (1 : Int32)) + (1 : Int32)) + (1 : Int32)) + (1 : Int32)))] [])
  refine Go.st (fun _ h => XS.iloadN X0.here hx rfl (hb hby d_jdk_43_method_13_code_9) rfl h) ?_
  show Go p e below _ s₁ (mkF m 10 #[.val (.ref t1), .val (.ref t2), .val (.int (((((0 : Int32) + (1 : Int32)) + (1 : Int32)) + (1 : Int32)) + (1 : Int32)))] [(.int (((((0 : Int32) + (1 : Int32)) + (1 : Int32)) + (1 : Int32)) + (1 : Int32)))])
  refine Go.st (fun _ h => XS.aloadN X0.here hx rfl (hb hby d_jdk_43_method_13_code_10) rfl rfl h) ?_
  show Go p e below _ s₁ (mkF m 11 #[.val (.ref t1), .val (.ref t2), .val (.int (((((0 : Int32) + (1 : Int32)) + (1 : Int32)) + (1 : Int32)) + (1 : Int32)))] [(.ref t1), (.int (((((0 : Int32) + (1 : Int32)) + (1 : Int32)) + (1 : Int32)) + (1 : Int32)))])
  refine Go.st (own_len X0 hx hZ e0 B1 rfl rfl (hb hby d_jdk_43_method_13_code_11)) ?_
  show Go p e below _ s₁ (mkF m 12 #[.val (.ref t1), .val (.ref t2), .val (.int (((((0 : Int32) + (1 : Int32)) + (1 : Int32)) + (1 : Int32)) + (1 : Int32)))] [(.int (6 : Int32)), (.int (((((0 : Int32) + (1 : Int32)) + (1 : Int32)) + (1 : Int32)) + (1 : Int32)))])
  refine Go.st (fun _ h => XS.icmpNo X0.here hx rfl (hb hby d_jdk_43_method_13_code_12) rfl (by decide) h) ?_
  show Go p e below _ s₁ (mkF m 15 #[.val (.ref t1), .val (.ref t2), .val (.int (((((0 : Int32) + (1 : Int32)) + (1 : Int32)) + (1 : Int32)) + (1 : Int32)))] [])
  refine Go.st (fun _ h => XS.aloadN X0.here hx rfl (hb hby d_jdk_43_method_13_code_15) rfl rfl h) ?_
  show Go p e below _ s₁ (mkF m 16 #[.val (.ref t1), .val (.ref t2), .val (.int (((((0 : Int32) + (1 : Int32)) + (1 : Int32)) + (1 : Int32)) + (1 : Int32)))] [(.ref t1)])
  refine Go.st (fun _ h => XS.iloadN X0.here hx rfl (hb hby d_jdk_43_method_13_code_16) rfl h) ?_
  show Go p e below _ s₁ (mkF m 17 #[.val (.ref t1), .val (.ref t2), .val (.int (((((0 : Int32) + (1 : Int32)) + (1 : Int32)) + (1 : Int32)) + (1 : Int32)))] [(.int (((((0 : Int32) + (1 : Int32)) + (1 : Int32)) + (1 : Int32)) + (1 : Int32))), (.ref t1)])
  refine Go.st (own_ldB X0 hx hZ e0 B1 (by decide) (by decide) rfl rfl rfl (hb hby d_jdk_43_method_13_code_17)) ?_
  show Go p e below _ s₁ (mkF m 18 #[.val (.ref t1), .val (.ref t2), .val (.int (((((0 : Int32) + (1 : Int32)) + (1 : Int32)) + (1 : Int32)) + (1 : Int32)))] [(.int (105 : Int32))])
  refine Go.st (fun _ h => XS.aloadN X0.here hx rfl (hb hby d_jdk_43_method_13_code_18) rfl rfl h) ?_
  show Go p e below _ s₁ (mkF m 19 #[.val (.ref t1), .val (.ref t2), .val (.int (((((0 : Int32) + (1 : Int32)) + (1 : Int32)) + (1 : Int32)) + (1 : Int32)))] [(.ref t2), (.int (105 : Int32))])
  refine Go.st (fun _ h => XS.iloadN X0.here hx rfl (hb hby d_jdk_43_method_13_code_19) rfl h) ?_
  show Go p e below _ s₁ (mkF m 20 #[.val (.ref t1), .val (.ref t2), .val (.int (((((0 : Int32) + (1 : Int32)) + (1 : Int32)) + (1 : Int32)) + (1 : Int32)))] [(.int (((((0 : Int32) + (1 : Int32)) + (1 : Int32)) + (1 : Int32)) + (1 : Int32))), (.ref t2), (.int (105 : Int32))])
  refine Go.st (own_ldB X0 hx hZ e0 B2 (by decide) (by decide) rfl rfl rfl (hb hby d_jdk_43_method_13_code_20)) ?_
  show Go p e below _ s₁ (mkF m 21 #[.val (.ref t1), .val (.ref t2), .val (.int (((((0 : Int32) + (1 : Int32)) + (1 : Int32)) + (1 : Int32)) + (1 : Int32)))] [(.int (105 : Int32)), (.int (105 : Int32))])
  refine Go.st (fun _ h => XS.icmpYes X0.here hx rfl (pc0 := 21) (pc' := 26) rfl (hb hby d_jdk_43_method_13_code_21) rfl (by decide) (by decide) (by decide) h) ?_
  show Go p e below _ s₁ (mkF m 26 #[.val (.ref t1), .val (.ref t2), .val (.int (((((0 : Int32) + (1 : Int32)) + (1 : Int32)) + (1 : Int32)) + (1 : Int32)))] [])
  refine Go.st (fun _ h => XT.iincV X0.here hx rfl (1 : Int32) (hb hby d_jdk_43_method_13_code_26) (by decide) rfl (l' := #[.val (.ref t1), .val (.ref t2), .val (.int ((((((0 : Int32) + (1 : Int32)) + (1 : Int32)) + (1 : Int32)) + (1 : Int32)) + (1 : Int32)))]) rfl h) ?_
  show Go p e below _ s₁ (mkF m 29 #[.val (.ref t1), .val (.ref t2), .val (.int ((((((0 : Int32) + (1 : Int32)) + (1 : Int32)) + (1 : Int32)) + (1 : Int32)) + (1 : Int32)))] [])
  refine Go.st (fun _ h => XS.goto X0.here hx rfl (pc0 := 29) (pc' := 9) rfl (hb hby d_jdk_43_method_13_code_29) (by decide) (by decide) h) ?_
  show Go p e below _ s₁ (mkF m 9 #[.val (.ref t1), .val (.ref t2), .val (.int ((((((0 : Int32) + (1 : Int32)) + (1 : Int32)) + (1 : Int32)) + (1 : Int32)) + (1 : Int32)))] [])
  refine Go.st (fun _ h => XS.iloadN X0.here hx rfl (hb hby d_jdk_43_method_13_code_9) rfl h) ?_
  show Go p e below _ s₁ (mkF m 10 #[.val (.ref t1), .val (.ref t2), .val (.int ((((((0 : Int32) + (1 : Int32)) + (1 : Int32)) + (1 : Int32)) + (1 : Int32)) + (1 : Int32)))] [(.int ((((((0 : Int32) + (1 : Int32)) + (1 : Int32)) + (1 : Int32)) + (1 : Int32)) + (1 : Int32)))])
  refine Go.st (fun _ h => XS.aloadN X0.here hx rfl (hb hby d_jdk_43_method_13_code_10) rfl rfl h) ?_
  show Go p e below _ s₁ (mkF m 11 #[.val (.ref t1), .val (.ref t2), .val (.int ((((((0 : Int32) + (1 : Int32)) + (1 : Int32)) + (1 : Int32)) + (1 : Int32)) + (1 : Int32)))] [(.ref t1), (.int ((((((0 : Int32) + (1 : Int32)) + (1 : Int32)) + (1 : Int32)) + (1 : Int32)) + (1 : Int32)))])
  refine Go.st (own_len X0 hx hZ e0 B1 rfl rfl (hb hby d_jdk_43_method_13_code_11)) ?_
  show Go p e below _ s₁ (mkF m 12 #[.val (.ref t1), .val (.ref t2), .val (.int ((((((0 : Int32) + (1 : Int32)) + (1 : Int32)) + (1 : Int32)) + (1 : Int32)) + (1 : Int32)))] [(.int (6 : Int32)), (.int ((((((0 : Int32) + (1 : Int32)) + (1 : Int32)) + (1 : Int32)) + (1 : Int32)) + (1 : Int32)))])
  refine Go.st (fun _ h => XS.icmpNo X0.here hx rfl (hb hby d_jdk_43_method_13_code_12) rfl (by decide) h) ?_
  show Go p e below _ s₁ (mkF m 15 #[.val (.ref t1), .val (.ref t2), .val (.int ((((((0 : Int32) + (1 : Int32)) + (1 : Int32)) + (1 : Int32)) + (1 : Int32)) + (1 : Int32)))] [])
  refine Go.st (fun _ h => XS.aloadN X0.here hx rfl (hb hby d_jdk_43_method_13_code_15) rfl rfl h) ?_
  show Go p e below _ s₁ (mkF m 16 #[.val (.ref t1), .val (.ref t2), .val (.int ((((((0 : Int32) + (1 : Int32)) + (1 : Int32)) + (1 : Int32)) + (1 : Int32)) + (1 : Int32)))] [(.ref t1)])
  refine Go.st (fun _ h => XS.iloadN X0.here hx rfl (hb hby d_jdk_43_method_13_code_16) rfl h) ?_
  show Go p e below _ s₁ (mkF m 17 #[.val (.ref t1), .val (.ref t2), .val (.int ((((((0 : Int32) + (1 : Int32)) + (1 : Int32)) + (1 : Int32)) + (1 : Int32)) + (1 : Int32)))] [(.int ((((((0 : Int32) + (1 : Int32)) + (1 : Int32)) + (1 : Int32)) + (1 : Int32)) + (1 : Int32))), (.ref t1)])
  refine Go.st (own_ldB X0 hx hZ e0 B1 (by decide) (by decide) rfl rfl rfl (hb hby d_jdk_43_method_13_code_17)) ?_
  show Go p e below _ s₁ (mkF m 18 #[.val (.ref t1), .val (.ref t2), .val (.int ((((((0 : Int32) + (1 : Int32)) + (1 : Int32)) + (1 : Int32)) + (1 : Int32)) + (1 : Int32)))] [(.int (108 : Int32))])
  refine Go.st (fun _ h => XS.aloadN X0.here hx rfl (hb hby d_jdk_43_method_13_code_18) rfl rfl h) ?_
  show Go p e below _ s₁ (mkF m 19 #[.val (.ref t1), .val (.ref t2), .val (.int ((((((0 : Int32) + (1 : Int32)) + (1 : Int32)) + (1 : Int32)) + (1 : Int32)) + (1 : Int32)))] [(.ref t2), (.int (108 : Int32))])
  refine Go.st (fun _ h => XS.iloadN X0.here hx rfl (hb hby d_jdk_43_method_13_code_19) rfl h) ?_
  show Go p e below _ s₁ (mkF m 20 #[.val (.ref t1), .val (.ref t2), .val (.int ((((((0 : Int32) + (1 : Int32)) + (1 : Int32)) + (1 : Int32)) + (1 : Int32)) + (1 : Int32)))] [(.int ((((((0 : Int32) + (1 : Int32)) + (1 : Int32)) + (1 : Int32)) + (1 : Int32)) + (1 : Int32))), (.ref t2), (.int (108 : Int32))])
  refine Go.st (own_ldB X0 hx hZ e0 B2 (by decide) (by decide) rfl rfl rfl (hb hby d_jdk_43_method_13_code_20)) ?_
  show Go p e below _ s₁ (mkF m 21 #[.val (.ref t1), .val (.ref t2), .val (.int ((((((0 : Int32) + (1 : Int32)) + (1 : Int32)) + (1 : Int32)) + (1 : Int32)) + (1 : Int32)))] [(.int (108 : Int32)), (.int (108 : Int32))])
  refine Go.st (fun _ h => XS.icmpYes X0.here hx rfl (pc0 := 21) (pc' := 26) rfl (hb hby d_jdk_43_method_13_code_21) rfl (by decide) (by decide) (by decide) h) ?_
  show Go p e below _ s₁ (mkF m 26 #[.val (.ref t1), .val (.ref t2), .val (.int ((((((0 : Int32) + (1 : Int32)) + (1 : Int32)) + (1 : Int32)) + (1 : Int32)) + (1 : Int32)))] [])
  refine Go.st (fun _ h => XT.iincV X0.here hx rfl (1 : Int32) (hb hby d_jdk_43_method_13_code_26) (by decide) rfl (l' := #[.val (.ref t1), .val (.ref t2), .val (.int (((((((0 : Int32) + (1 : Int32)) + (1 : Int32)) + (1 : Int32)) + (1 : Int32)) + (1 : Int32)) + (1 : Int32)))]) rfl h) ?_
  show Go p e below _ s₁ (mkF m 29 #[.val (.ref t1), .val (.ref t2), .val (.int (((((((0 : Int32) + (1 : Int32)) + (1 : Int32)) + (1 : Int32)) + (1 : Int32)) + (1 : Int32)) + (1 : Int32)))] [])
  refine Go.st (fun _ h => XS.goto X0.here hx rfl (pc0 := 29) (pc' := 9) rfl (hb hby d_jdk_43_method_13_code_29) (by decide) (by decide) h) ?_
  show Go p e below _ s₁ (mkF m 9 #[.val (.ref t1), .val (.ref t2), .val (.int (((((((0 : Int32) + (1 : Int32)) + (1 : Int32)) + (1 : Int32)) + (1 : Int32)) + (1 : Int32)) + (1 : Int32)))] [])
  refine Go.st (fun _ h => XS.iloadN X0.here hx rfl (hb hby d_jdk_43_method_13_code_9) rfl h) ?_
  show Go p e below _ s₁ (mkF m 10 #[.val (.ref t1), .val (.ref t2), .val (.int (((((((0 : Int32) + (1 : Int32)) + (1 : Int32)) + (1 : Int32)) + (1 : Int32)) + (1 : Int32)) + (1 : Int32)))] [(.int (((((((0 : Int32) + (1 : Int32)) + (1 : Int32)) + (1 : Int32)) + (1 : Int32)) + (1 : Int32)) + (1 : Int32)))])
  refine Go.st (fun _ h => XS.aloadN X0.here hx rfl (hb hby d_jdk_43_method_13_code_10) rfl rfl h) ?_
  show Go p e below _ s₁ (mkF m 11 #[.val (.ref t1), .val (.ref t2), .val (.int (((((((0 : Int32) + (1 : Int32)) + (1 : Int32)) + (1 : Int32)) + (1 : Int32)) + (1 : Int32)) + (1 : Int32)))] [(.ref t1), (.int (((((((0 : Int32) + (1 : Int32)) + (1 : Int32)) + (1 : Int32)) + (1 : Int32)) + (1 : Int32)) + (1 : Int32)))])
  refine Go.st (own_len X0 hx hZ e0 B1 rfl rfl (hb hby d_jdk_43_method_13_code_11)) ?_
  show Go p e below _ s₁ (mkF m 12 #[.val (.ref t1), .val (.ref t2), .val (.int (((((((0 : Int32) + (1 : Int32)) + (1 : Int32)) + (1 : Int32)) + (1 : Int32)) + (1 : Int32)) + (1 : Int32)))] [(.int (6 : Int32)), (.int (((((((0 : Int32) + (1 : Int32)) + (1 : Int32)) + (1 : Int32)) + (1 : Int32)) + (1 : Int32)) + (1 : Int32)))])
  refine Go.st (fun _ h => XS.icmpYes X0.here hx rfl (pc0 := 12) (pc' := 32) rfl (hb hby d_jdk_43_method_13_code_12) rfl (by decide) (by decide) (by decide) h) ?_
  show Go p e below _ s₁ (mkF m 32 #[.val (.ref t1), .val (.ref t2), .val (.int (((((((0 : Int32) + (1 : Int32)) + (1 : Int32)) + (1 : Int32)) + (1 : Int32)) + (1 : Int32)) + (1 : Int32)))] [])
  refine Go.st (fun _ h => XT.iconstV X0.here hx rfl (1 : Int32) (hb hby d_jdk_43_method_13_code_32) (by decide) h) ?_
  show Go p e below _ s₁ (mkF m 33 #[.val (.ref t1), .val (.ref t2), .val (.int (((((((0 : Int32) + (1 : Int32)) + (1 : Int32)) + (1 : Int32)) + (1 : Int32)) + (1 : Int32)) + (1 : Int32)))] [(.int (1 : Int32))])
  refine Go.retZ X0 hx hlk hret rfl (hb hby d_jdk_43_method_13_code_33) (by decide) (by decide) ?_
  exact ⟨rfl, rfl, e0⟩
theorem ef_rmEq_email (x0 : Addr) (x1 : Addr) (m : MethodId) : entryFrame m #[(.ref x0), (.ref x1)] 3 = mkF m 0 #[.val (.ref x0), .val (.ref x1), .unset] [] := by first | (simp [entryFrame, mkF, argsToLocals, Value.category]; done) | rfl
set_option maxRecDepth 65536 in
set_option maxHeartbeats 40000000 in
theorem rmEq_email (l : Launch) (Z : State) (a0 : Array Value) (hw : ∀ d ∈ tables_1, d.before a0 Z = true) (g1 g2 t1 t2 : Addr) (k1 k2 : ClassId) (zc : Int32) (h0 : Heap) (E_g1 : Exa Z h0 g1 "java/lang/String") (C_g1 : Fld Z h0 g1 "java/lang/String" "coder" "B" (.int (0 : Int32))) (V_g1 : Fld Z h0 g1 "java/lang/String" "value" "[B" (.ref t1)) (E_g2 : Exa Z h0 g2 "java/lang/String") (C_g2 : Fld Z h0 g2 "java/lang/String" "coder" "B" (.int (0 : Int32))) (V_g2 : Fld Z h0 g2 "java/lang/String" "value" "[B" (.ref t2)) (B1 : Arv Z h0 t1 k1 .byte (6 : Int32) [(.int (101 : Int32)), (.int (45 : Int32)), (.int (109 : Int32)), (.int (97 : Int32)), (.int (105 : Int32)), (.int (108 : Int32))] (.int (0 : Int32))) (B2 : Arv Z h0 t2 k2 .byte (6 : Int32) [(.int (101 : Int32)), (.int (45 : Int32)), (.int (109 : Int32)), (.int (97 : Int32)), (.int (105 : Int32)), (.int (108 : Int32))] (.int (0 : Int32))) (S_CS : Sta Z h0 "java/lang/String" "COMPACT_STRINGS" "Z" (.int zc)) (hzc : ¬ zc = (0 : Int32)) :
    Does l Z (⟨"java/lang/String", "equals", "(Ljava/lang/Object;)Z"⟩ : MethodName) jdk_42_method_66_code 3 (some .boolean) [] ({ frames := 1, cells := 0, slots := 0, locals := 14 } : Room) #[(.ref g1), (.ref g2)] h0 (Val (some (.int (1 : Int32))) h0) := by
  refine Does.intro pn_java_lang_String (ef_rmEq_email g1 g2) ?_
  intro p e s m below meth c s₁ hx hby hml hown hnm hret hlk hZ e0 X0
  show Go p e below _ s₁ (mkF m 0 #[.val (.ref g1), .val (.ref g2), .unset] [])
  refine Go.st (fun _ h => XS.aloadN X0.here hx rfl (hb hby d_jdk_42_method_66_code_0) rfl rfl h) ?_
  show Go p e below _ s₁ (mkF m 1 #[.val (.ref g1), .val (.ref g2), .unset] [(.ref g1)])
  refine Go.st (fun _ h => XS.aloadN X0.here hx rfl (hb hby d_jdk_42_method_66_code_1) rfl rfl h) ?_
  show Go p e below _ s₁ (mkF m 2 #[.val (.ref g1), .val (.ref g2), .unset] [(.ref g2), (.ref g1)])
  by_cases hc1 : g1 = g2
  · refine Go.st (fun _ h => XT.acmpNo X0.here hx rfl (hb hby d_jdk_42_method_66_code_2) rfl rfl rfl ((own_aeq hc1).2) h) ?_
    show Go p e below _ s₁ (mkF m 5 #[.val (.ref g1), .val (.ref g2), .unset] [])
    refine Go.st (fun _ h => XT.iconstV X0.here hx rfl (1 : Int32) (hb hby d_jdk_42_method_66_code_5) (by decide) h) ?_
    show Go p e below _ s₁ (mkF m 6 #[.val (.ref g1), .val (.ref g2), .unset] [(.int (1 : Int32))])
    refine Go.retZ X0 hx hlk hret rfl (hb hby d_jdk_42_method_66_code_6) (by decide) (by decide) ?_
    exact ⟨rfl, rfl, e0⟩
  · refine Go.st (fun _ h => XT.acmpYes X0.here hx rfl (pc0 := 2) (pc' := 7) rfl (hb hby d_jdk_42_method_66_code_2) rfl rfl rfl ((own_ane hc1).2) (by decide) (by decide) h) ?_
    show Go p e below _ s₁ (mkF m 7 #[.val (.ref g1), .val (.ref g2), .unset] [])
    refine Go.st (fun _ h => XS.aloadN X0.here hx rfl (hb hby d_jdk_42_method_66_code_7) rfl rfl h) ?_
    show Go p e below _ s₁ (mkF m 8 #[.val (.ref g1), .val (.ref g2), .unset] [(.ref g2)])
    obtain ⟨T2, X2, e2, st2⟩ := instY X0 hx hZ hown (hw _ (List.mem_of_getElem? (i := 42) rfl)) e0 (Ins.self E_g2) (g := (mkF m 8 #[.val (.ref g1), .val (.ref g2), .unset] [(.ref g2)])) rfl rfl (hb hby d_jdk_42_method_66_code_8)
    refine Go.st st2 ?_
    show Go p e below _ T2 (mkF m 11 #[.val (.ref g1), .val (.ref g2), .unset] [(.int (1 : Int32))])
    refine Go.st (fun _ h => XS.ifNo X2.here hx rfl (hb hby d_jdk_42_method_66_code_11) rfl (by decide) h) ?_
    show Go p e below _ T2 (mkF m 14 #[.val (.ref g1), .val (.ref g2), .unset] [])
    refine Go.st (fun _ h => XS.aloadN X2.here hx rfl (hb hby d_jdk_42_method_66_code_14) rfl rfl h) ?_
    show Go p e below _ T2 (mkF m 15 #[.val (.ref g1), .val (.ref g2), .unset] [(.ref g2)])
    obtain ⟨T3, X3, e3, st3⟩ := castY X2 hx hZ hown (hw _ (List.mem_of_getElem? (i := 42) rfl)) e2 (Ins.self E_g2) (g := (mkF m 15 #[.val (.ref g1), .val (.ref g2), .unset] [(.ref g2)])) rfl rfl (hb hby d_jdk_42_method_66_code_15)
    refine Go.st st3 ?_
    show Go p e below _ T3 (mkF m 18 #[.val (.ref g1), .val (.ref g2), .unset] [(.ref g2)])
    refine Go.st (fun _ h => XS.astoreN X3.here hx rfl (hb hby d_jdk_42_method_66_code_18) rfl rfl (l' := #[.val (.ref g1), .val (.ref g2), .val (.ref g2)]) rfl h) ?_
    show Go p e below _ T3 (mkF m 19 #[.val (.ref g1), .val (.ref g2), .val (.ref g2)] [])
    obtain ⟨T4, X4, e4, st4⟩ := getS2 X3 hx hZ hown (host := "") (Or.inl (hw _ (List.mem_of_getElem? (i := 44) rfl))) Via.refl e3 S_CS (g := (mkF m 19 #[.val (.ref g1), .val (.ref g2), .val (.ref g2)] [])) rfl (hb hby d_jdk_42_method_66_code_19)
    refine Go.st st4 ?_
    show Go p e below _ T4 (mkF m 22 #[.val (.ref g1), .val (.ref g2), .val (.ref g2)] [(.int zc)])
    refine Go.st (fun _ h => XS.ifNo X4.here hx rfl (hb hby d_jdk_42_method_66_code_22) rfl ((if0 _ _).trans (feq (hzc : ¬ (zc = (0 : Int32)))).1) h) ?_
    show Go p e below _ T4 (mkF m 25 #[.val (.ref g1), .val (.ref g2), .val (.ref g2)] [])
    refine Go.st (fun _ h => XS.aloadN X4.here hx rfl (hb hby d_jdk_42_method_66_code_25) rfl rfl h) ?_
    show Go p e below _ T4 (mkF m 26 #[.val (.ref g1), .val (.ref g2), .val (.ref g2)] [(.ref g1)])
    obtain ⟨T5, X5, e5, st5⟩ := getF X4 hx hZ hown (host := "") (Or.inl (hw _ (List.mem_of_getElem? (i := 45) rfl))) Via.refl e4 C_g1 (g := (mkF m 26 #[.val (.ref g1), .val (.ref g2), .val (.ref g2)] [(.ref g1)])) rfl rfl (hb hby d_jdk_42_method_66_code_26)
    refine Go.st st5 ?_
    show Go p e below _ T5 (mkF m 29 #[.val (.ref g1), .val (.ref g2), .val (.ref g2)] [(.int (0 : Int32))])
    refine Go.st (fun _ h => XS.aloadN X5.here hx rfl (hb hby d_jdk_42_method_66_code_29) rfl rfl h) ?_
    show Go p e below _ T5 (mkF m 30 #[.val (.ref g1), .val (.ref g2), .val (.ref g2)] [(.ref g2), (.int (0 : Int32))])
    obtain ⟨T6, X6, e6, st6⟩ := getF X5 hx hZ hown (host := "") (Or.inl (hw _ (List.mem_of_getElem? (i := 45) rfl))) Via.refl e5 C_g2 (g := (mkF m 30 #[.val (.ref g1), .val (.ref g2), .val (.ref g2)] [(.ref g2), (.int (0 : Int32))])) rfl rfl (hb hby d_jdk_42_method_66_code_30)
    refine Go.st st6 ?_
    show Go p e below _ T6 (mkF m 33 #[.val (.ref g1), .val (.ref g2), .val (.ref g2)] [(.int (0 : Int32)), (.int (0 : Int32))])
    refine Go.st (fun _ h => XS.icmpNo X6.here hx rfl (hb hby d_jdk_42_method_66_code_33) rfl (by decide) h) ?_
    show Go p e below _ T6 (mkF m 36 #[.val (.ref g1), .val (.ref g2), .val (.ref g2)] [])
    refine Go.st (fun _ h => XS.aloadN X6.here hx rfl (hb hby d_jdk_42_method_66_code_36) rfl rfl h) ?_
    show Go p e below _ T6 (mkF m 37 #[.val (.ref g1), .val (.ref g2), .val (.ref g2)] [(.ref g1)])
    obtain ⟨T7, X7, e7, st7⟩ := getF X6 hx hZ hown (host := "") (Or.inl (hw _ (List.mem_of_getElem? (i := 46) rfl))) Via.refl e6 V_g1 (g := (mkF m 37 #[.val (.ref g1), .val (.ref g2), .val (.ref g2)] [(.ref g1)])) rfl rfl (hb hby d_jdk_42_method_66_code_37)
    refine Go.st st7 ?_
    show Go p e below _ T7 (mkF m 40 #[.val (.ref g1), .val (.ref g2), .val (.ref g2)] [(.ref t1)])
    refine Go.st (fun _ h => XS.aloadN X7.here hx rfl (hb hby d_jdk_42_method_66_code_40) rfl rfl h) ?_
    show Go p e below _ T7 (mkF m 41 #[.val (.ref g1), .val (.ref g2), .val (.ref g2)] [(.ref g2), (.ref t1)])
    obtain ⟨T8, X8, e8, st8⟩ := getF X7 hx hZ hown (host := "") (Or.inl (hw _ (List.mem_of_getElem? (i := 46) rfl))) Via.refl e7 V_g2 (g := (mkF m 41 #[.val (.ref g1), .val (.ref g2), .val (.ref g2)] [(.ref g2), (.ref t1)])) rfl rfl (hb hby d_jdk_42_method_66_code_41)
    refine Go.st st8 ?_
    show Go p e below _ T8 (mkF m 44 #[.val (.ref g1), .val (.ref g2), .val (.ref g2)] [(.ref t2), (.ref t1)])
    obtain ⟨T9, X9, e9, st9⟩ := own_still rfl rfl (Does.static (y := (⟨"java/lang/StringLatin1", "equals", "([B[B)Z"⟩ : MethodName)) (g := (mkF m 44 #[.val (.ref g1), .val (.ref g2), .val (.ref g2)] [(.ref t2), (.ref t1)])) (rmLat_email l Z a0 hw t1 t2 k1 k2 h0 B1 B2) X8 hx hZ hown e8 (hw _ (List.mem_of_getElem? (i := 47) rfl)) (hw _ (List.mem_of_getElem? (i := 48) rfl)) (hw _ (List.mem_of_getElem? (i := 49) rfl)) (hw _ (List.mem_of_getElem? (i := 50) rfl)) (by decide) rfl (by rw [hml]; rfl) (argsL := [(.ref t1), (.ref t2)]) (rest := []) (lenOf pd_285bB5bB29Z rfl) rfl (hb hby d_jdk_42_method_66_code_44) (W := 0) (by show 2 * 0 + _ ≤ _; exact Nat.le_of_eq rfl) (by decide) (by decide) (by decide) (by decide))
    refine Go.st st9 ?_
    show Go p e below _ T9 (mkF m 47 #[.val (.ref g1), .val (.ref g2), .val (.ref g2)] [(.int (1 : Int32))])
    refine Go.st (fun _ h => XS.ifNo X9.here hx rfl (hb hby d_jdk_42_method_66_code_47) rfl (by decide) h) ?_
    show Go p e below _ T9 (mkF m 50 #[.val (.ref g1), .val (.ref g2), .val (.ref g2)] [])
    refine Go.st (fun _ h => XT.iconstV X9.here hx rfl (1 : Int32) (hb hby d_jdk_42_method_66_code_50) (by decide) h) ?_
    show Go p e below _ T9 (mkF m 51 #[.val (.ref g1), .val (.ref g2), .val (.ref g2)] [(.int (1 : Int32))])
    refine Go.st (fun _ h => XS.goto X9.here hx rfl (pc0 := 51) (pc' := 55) rfl (hb hby d_jdk_42_method_66_code_51) (by decide) (by decide) h) ?_
    show Go p e below _ T9 (mkF m 55 #[.val (.ref g1), .val (.ref g2), .val (.ref g2)] [(.int (1 : Int32))])
    refine Go.retZ X9 hx hlk hret rfl (hb hby d_jdk_42_method_66_code_55) (by decide) (by decide) ?_
    exact ⟨rfl, rfl, e9⟩
theorem ef_rmLat_EMail (x0 : Addr) (x1 : Addr) (m : MethodId) : entryFrame m #[(.ref x0), (.ref x1)] 3 = mkF m 0 #[.val (.ref x0), .val (.ref x1), .unset] [] := by first | (simp [entryFrame, mkF, argsToLocals, Value.category]; done) | rfl
set_option maxRecDepth 65536 in
set_option maxHeartbeats 40000000 in
theorem rmLat_EMail (l : Launch) (Z : State) (a0 : Array Value) (hw : ∀ d ∈ tables_1, d.before a0 Z = true) (t1 t2 : Addr) (k1 k2 : ClassId) (h0 : Heap) (B1 : Arv Z h0 t1 k1 .byte (6 : Int32) [(.int (69 : Int32)), (.int (45 : Int32)), (.int (77 : Int32)), (.int (97 : Int32)), (.int (105 : Int32)), (.int (108 : Int32))] (.int (0 : Int32))) (B2 : Arv Z h0 t2 k2 .byte (6 : Int32) [(.int (69 : Int32)), (.int (45 : Int32)), (.int (77 : Int32)), (.int (97 : Int32)), (.int (105 : Int32)), (.int (108 : Int32))] (.int (0 : Int32))) :
    Does l Z (⟨"java/lang/StringLatin1", "equals", "([B[B)Z"⟩ : MethodName) jdk_43_method_13_code 3 (some .boolean) [] ({ frames := 0, cells := 0, slots := 0, locals := 0 } : Room) #[(.ref t1), (.ref t2)] h0 (Val (some (.int (1 : Int32))) h0) := by
  refine Does.intro pn_java_lang_StringLatin1 (ef_rmLat_EMail t1 t2) ?_
  intro p e s m below meth c s₁ hx hby hml hown hnm hret hlk hZ e0 X0
  show Go p e below _ s₁ (mkF m 0 #[.val (.ref t1), .val (.ref t2), .unset] [])
  refine Go.st (fun _ h => XS.aloadN X0.here hx rfl (hb hby d_jdk_43_method_13_code_0) rfl rfl h) ?_
  show Go p e below _ s₁ (mkF m 1 #[.val (.ref t1), .val (.ref t2), .unset] [(.ref t1)])
  refine Go.st (own_len X0 hx hZ e0 B1 rfl rfl (hb hby d_jdk_43_method_13_code_1)) ?_
  show Go p e below _ s₁ (mkF m 2 #[.val (.ref t1), .val (.ref t2), .unset] [(.int (6 : Int32))])
  refine Go.st (fun _ h => XS.aloadN X0.here hx rfl (hb hby d_jdk_43_method_13_code_2) rfl rfl h) ?_
  show Go p e below _ s₁ (mkF m 3 #[.val (.ref t1), .val (.ref t2), .unset] [(.ref t2), (.int (6 : Int32))])
  refine Go.st (own_len X0 hx hZ e0 B2 rfl rfl (hb hby d_jdk_43_method_13_code_3)) ?_
  show Go p e below _ s₁ (mkF m 4 #[.val (.ref t1), .val (.ref t2), .unset] [(.int (6 : Int32)), (.int (6 : Int32))])
  refine Go.st (fun _ h => XS.icmpNo X0.here hx rfl (hb hby d_jdk_43_method_13_code_4) rfl (by decide) h) ?_
  show Go p e below _ s₁ (mkF m 7 #[.val (.ref t1), .val (.ref t2), .unset] [])
  refine Go.st (fun _ h => XT.iconstV X0.here hx rfl (0 : Int32) (hb hby d_jdk_43_method_13_code_7) (by decide) h) ?_
  show Go p e below _ s₁ (mkF m 8 #[.val (.ref t1), .val (.ref t2), .unset] [(.int (0 : Int32))])
  refine Go.st (fun _ h => XS.istoreN X0.here hx rfl (hb hby d_jdk_43_method_13_code_8) rfl (l' := #[.val (.ref t1), .val (.ref t2), .val (.int (0 : Int32))]) rfl h) ?_
  show Go p e below _ s₁ (mkF m 9 #[.val (.ref t1), .val (.ref t2), .val (.int (0 : Int32))] [])
  refine Go.st (fun _ h => XS.iloadN X0.here hx rfl (hb hby d_jdk_43_method_13_code_9) rfl h) ?_
  show Go p e below _ s₁ (mkF m 10 #[.val (.ref t1), .val (.ref t2), .val (.int (0 : Int32))] [(.int (0 : Int32))])
  refine Go.st (fun _ h => XS.aloadN X0.here hx rfl (hb hby d_jdk_43_method_13_code_10) rfl rfl h) ?_
  show Go p e below _ s₁ (mkF m 11 #[.val (.ref t1), .val (.ref t2), .val (.int (0 : Int32))] [(.ref t1), (.int (0 : Int32))])
  refine Go.st (own_len X0 hx hZ e0 B1 rfl rfl (hb hby d_jdk_43_method_13_code_11)) ?_
  show Go p e below _ s₁ (mkF m 12 #[.val (.ref t1), .val (.ref t2), .val (.int (0 : Int32))] [(.int (6 : Int32)), (.int (0 : Int32))])
  refine Go.st (fun _ h => XS.icmpNo X0.here hx rfl (hb hby d_jdk_43_method_13_code_12) rfl (by decide) h) ?_
  show Go p e below _ s₁ (mkF m 15 #[.val (.ref t1), .val (.ref t2), .val (.int (0 : Int32))] [])
  refine Go.st (fun _ h => XS.aloadN X0.here hx rfl (hb hby d_jdk_43_method_13_code_15) rfl rfl h) ?_
  show Go p e below _ s₁ (mkF m 16 #[.val (.ref t1), .val (.ref t2), .val (.int (0 : Int32))] [(.ref t1)])
  refine Go.st (fun _ h => XS.iloadN X0.here hx rfl (hb hby d_jdk_43_method_13_code_16) rfl h) ?_
  show Go p e below _ s₁ (mkF m 17 #[.val (.ref t1), .val (.ref t2), .val (.int (0 : Int32))] [(.int (0 : Int32)), (.ref t1)])
  refine Go.st (own_ldB X0 hx hZ e0 B1 (by decide) (by decide) rfl rfl rfl (hb hby d_jdk_43_method_13_code_17)) ?_
  show Go p e below _ s₁ (mkF m 18 #[.val (.ref t1), .val (.ref t2), .val (.int (0 : Int32))] [(.int (69 : Int32))])
  refine Go.st (fun _ h => XS.aloadN X0.here hx rfl (hb hby d_jdk_43_method_13_code_18) rfl rfl h) ?_
  show Go p e below _ s₁ (mkF m 19 #[.val (.ref t1), .val (.ref t2), .val (.int (0 : Int32))] [(.ref t2), (.int (69 : Int32))])
  refine Go.st (fun _ h => XS.iloadN X0.here hx rfl (hb hby d_jdk_43_method_13_code_19) rfl h) ?_
  show Go p e below _ s₁ (mkF m 20 #[.val (.ref t1), .val (.ref t2), .val (.int (0 : Int32))] [(.int (0 : Int32)), (.ref t2), (.int (69 : Int32))])
  refine Go.st (own_ldB X0 hx hZ e0 B2 (by decide) (by decide) rfl rfl rfl (hb hby d_jdk_43_method_13_code_20)) ?_
  show Go p e below _ s₁ (mkF m 21 #[.val (.ref t1), .val (.ref t2), .val (.int (0 : Int32))] [(.int (69 : Int32)), (.int (69 : Int32))])
  refine Go.st (fun _ h => XS.icmpYes X0.here hx rfl (pc0 := 21) (pc' := 26) rfl (hb hby d_jdk_43_method_13_code_21) rfl (by decide) (by decide) (by decide) h) ?_
  show Go p e below _ s₁ (mkF m 26 #[.val (.ref t1), .val (.ref t2), .val (.int (0 : Int32))] [])
  refine Go.st (fun _ h => XT.iincV X0.here hx rfl (1 : Int32) (hb hby d_jdk_43_method_13_code_26) (by decide) rfl (l' := #[.val (.ref t1), .val (.ref t2), .val (.int ((0 : Int32) + (1 : Int32)))]) rfl h) ?_
  show Go p e below _ s₁ (mkF m 29 #[.val (.ref t1), .val (.ref t2), .val (.int ((0 : Int32) + (1 : Int32)))] [])
  refine Go.st (fun _ h => XS.goto X0.here hx rfl (pc0 := 29) (pc' := 9) rfl (hb hby d_jdk_43_method_13_code_29) (by decide) (by decide) h) ?_
  show Go p e below _ s₁ (mkF m 9 #[.val (.ref t1), .val (.ref t2), .val (.int ((0 : Int32) + (1 : Int32)))] [])
  refine Go.st (fun _ h => XS.iloadN X0.here hx rfl (hb hby d_jdk_43_method_13_code_9) rfl h) ?_
  show Go p e below _ s₁ (mkF m 10 #[.val (.ref t1), .val (.ref t2), .val (.int ((0 : Int32) + (1 : Int32)))] [(.int ((0 : Int32) + (1 : Int32)))])
  refine Go.st (fun _ h => XS.aloadN X0.here hx rfl (hb hby d_jdk_43_method_13_code_10) rfl rfl h) ?_
  show Go p e below _ s₁ (mkF m 11 #[.val (.ref t1), .val (.ref t2), .val (.int ((0 : Int32) + (1 : Int32)))] [(.ref t1), (.int ((0 : Int32) + (1 : Int32)))])
  refine Go.st (own_len X0 hx hZ e0 B1 rfl rfl (hb hby d_jdk_43_method_13_code_11)) ?_
  show Go p e below _ s₁ (mkF m 12 #[.val (.ref t1), .val (.ref t2), .val (.int ((0 : Int32) + (1 : Int32)))] [(.int (6 : Int32)), (.int ((0 : Int32) + (1 : Int32)))])
  refine Go.st (fun _ h => XS.icmpNo X0.here hx rfl (hb hby d_jdk_43_method_13_code_12) rfl (by decide) h) ?_
  show Go p e below _ s₁ (mkF m 15 #[.val (.ref t1), .val (.ref t2), .val (.int ((0 : Int32) + (1 : Int32)))] [])
  refine Go.st (fun _ h => XS.aloadN X0.here hx rfl (hb hby d_jdk_43_method_13_code_15) rfl rfl h) ?_
  show Go p e below _ s₁ (mkF m 16 #[.val (.ref t1), .val (.ref t2), .val (.int ((0 : Int32) + (1 : Int32)))] [(.ref t1)])
  refine Go.st (fun _ h => XS.iloadN X0.here hx rfl (hb hby d_jdk_43_method_13_code_16) rfl h) ?_
  show Go p e below _ s₁ (mkF m 17 #[.val (.ref t1), .val (.ref t2), .val (.int ((0 : Int32) + (1 : Int32)))] [(.int ((0 : Int32) + (1 : Int32))), (.ref t1)])
  refine Go.st (own_ldB X0 hx hZ e0 B1 (by decide) (by decide) rfl rfl rfl (hb hby d_jdk_43_method_13_code_17)) ?_
  show Go p e below _ s₁ (mkF m 18 #[.val (.ref t1), .val (.ref t2), .val (.int ((0 : Int32) + (1 : Int32)))] [(.int (45 : Int32))])
  refine Go.st (fun _ h => XS.aloadN X0.here hx rfl (hb hby d_jdk_43_method_13_code_18) rfl rfl h) ?_
  show Go p e below _ s₁ (mkF m 19 #[.val (.ref t1), .val (.ref t2), .val (.int ((0 : Int32) + (1 : Int32)))] [(.ref t2), (.int (45 : Int32))])
  refine Go.st (fun _ h => XS.iloadN X0.here hx rfl (hb hby d_jdk_43_method_13_code_19) rfl h) ?_
  show Go p e below _ s₁ (mkF m 20 #[.val (.ref t1), .val (.ref t2), .val (.int ((0 : Int32) + (1 : Int32)))] [(.int ((0 : Int32) + (1 : Int32))), (.ref t2), (.int (45 : Int32))])
  refine Go.st (own_ldB X0 hx hZ e0 B2 (by decide) (by decide) rfl rfl rfl (hb hby d_jdk_43_method_13_code_20)) ?_
  show Go p e below _ s₁ (mkF m 21 #[.val (.ref t1), .val (.ref t2), .val (.int ((0 : Int32) + (1 : Int32)))] [(.int (45 : Int32)), (.int (45 : Int32))])
  refine Go.st (fun _ h => XS.icmpYes X0.here hx rfl (pc0 := 21) (pc' := 26) rfl (hb hby d_jdk_43_method_13_code_21) rfl (by decide) (by decide) (by decide) h) ?_
  show Go p e below _ s₁ (mkF m 26 #[.val (.ref t1), .val (.ref t2), .val (.int ((0 : Int32) + (1 : Int32)))] [])
  refine Go.st (fun _ h => XT.iincV X0.here hx rfl (1 : Int32) (hb hby d_jdk_43_method_13_code_26) (by decide) rfl (l' := #[.val (.ref t1), .val (.ref t2), .val (.int (((0 : Int32) + (1 : Int32)) + (1 : Int32)))]) rfl h) ?_
  show Go p e below _ s₁ (mkF m 29 #[.val (.ref t1), .val (.ref t2), .val (.int (((0 : Int32) + (1 : Int32)) + (1 : Int32)))] [])
  refine Go.st (fun _ h => XS.goto X0.here hx rfl (pc0 := 29) (pc' := 9) rfl (hb hby d_jdk_43_method_13_code_29) (by decide) (by decide) h) ?_
  show Go p e below _ s₁ (mkF m 9 #[.val (.ref t1), .val (.ref t2), .val (.int (((0 : Int32) + (1 : Int32)) + (1 : Int32)))] [])
  refine Go.st (fun _ h => XS.iloadN X0.here hx rfl (hb hby d_jdk_43_method_13_code_9) rfl h) ?_
  show Go p e below _ s₁ (mkF m 10 #[.val (.ref t1), .val (.ref t2), .val (.int (((0 : Int32) + (1 : Int32)) + (1 : Int32)))] [(.int (((0 : Int32) + (1 : Int32)) + (1 : Int32)))])
  refine Go.st (fun _ h => XS.aloadN X0.here hx rfl (hb hby d_jdk_43_method_13_code_10) rfl rfl h) ?_
  show Go p e below _ s₁ (mkF m 11 #[.val (.ref t1), .val (.ref t2), .val (.int (((0 : Int32) + (1 : Int32)) + (1 : Int32)))] [(.ref t1), (.int (((0 : Int32) + (1 : Int32)) + (1 : Int32)))])
  refine Go.st (own_len X0 hx hZ e0 B1 rfl rfl (hb hby d_jdk_43_method_13_code_11)) ?_
  show Go p e below _ s₁ (mkF m 12 #[.val (.ref t1), .val (.ref t2), .val (.int (((0 : Int32) + (1 : Int32)) + (1 : Int32)))] [(.int (6 : Int32)), (.int (((0 : Int32) + (1 : Int32)) + (1 : Int32)))])
  refine Go.st (fun _ h => XS.icmpNo X0.here hx rfl (hb hby d_jdk_43_method_13_code_12) rfl (by decide) h) ?_
  show Go p e below _ s₁ (mkF m 15 #[.val (.ref t1), .val (.ref t2), .val (.int (((0 : Int32) + (1 : Int32)) + (1 : Int32)))] [])
  refine Go.st (fun _ h => XS.aloadN X0.here hx rfl (hb hby d_jdk_43_method_13_code_15) rfl rfl h) ?_
  show Go p e below _ s₁ (mkF m 16 #[.val (.ref t1), .val (.ref t2), .val (.int (((0 : Int32) + (1 : Int32)) + (1 : Int32)))] [(.ref t1)])
  refine Go.st (fun _ h => XS.iloadN X0.here hx rfl (hb hby d_jdk_43_method_13_code_16) rfl h) ?_
  show Go p e below _ s₁ (mkF m 17 #[.val (.ref t1), .val (.ref t2), .val (.int (((0 : Int32) + (1 : Int32)) + (1 : Int32)))] [(.int (((0 : Int32) + (1 : Int32)) + (1 : Int32))), (.ref t1)])
  refine Go.st (own_ldB X0 hx hZ e0 B1 (by decide) (by decide) rfl rfl rfl (hb hby d_jdk_43_method_13_code_17)) ?_
  show Go p e below _ s₁ (mkF m 18 #[.val (.ref t1), .val (.ref t2), .val (.int (((0 : Int32) + (1 : Int32)) + (1 : Int32)))] [(.int (77 : Int32))])
  refine Go.st (fun _ h => XS.aloadN X0.here hx rfl (hb hby d_jdk_43_method_13_code_18) rfl rfl h) ?_
  show Go p e below _ s₁ (mkF m 19 #[.val (.ref t1), .val (.ref t2), .val (.int (((0 : Int32) + (1 : Int32)) + (1 : Int32)))] [(.ref t2), (.int (77 : Int32))])
  refine Go.st (fun _ h => XS.iloadN X0.here hx rfl (hb hby d_jdk_43_method_13_code_19) rfl h) ?_
  show Go p e below _ s₁ (mkF m 20 #[.val (.ref t1), .val (.ref t2), .val (.int (((0 : Int32) + (1 : Int32)) + (1 : Int32)))] [(.int (((0 : Int32) + (1 : Int32)) + (1 : Int32))), (.ref t2), (.int (77 : Int32))])
  refine Go.st (own_ldB X0 hx hZ e0 B2 (by decide) (by decide) rfl rfl rfl (hb hby d_jdk_43_method_13_code_20)) ?_
  show Go p e below _ s₁ (mkF m 21 #[.val (.ref t1), .val (.ref t2), .val (.int (((0 : Int32) + (1 : Int32)) + (1 : Int32)))] [(.int (77 : Int32)), (.int (77 : Int32))])
  refine Go.st (fun _ h => XS.icmpYes X0.here hx rfl (pc0 := 21) (pc' := 26) rfl (hb hby d_jdk_43_method_13_code_21) rfl (by decide) (by decide) (by decide) h) ?_
  show Go p e below _ s₁ (mkF m 26 #[.val (.ref t1), .val (.ref t2), .val (.int (((0 : Int32) + (1 : Int32)) + (1 : Int32)))] [])
  refine Go.st (fun _ h => XT.iincV X0.here hx rfl (1 : Int32) (hb hby d_jdk_43_method_13_code_26) (by decide) rfl (l' := #[.val (.ref t1), .val (.ref t2), .val (.int ((((0 : Int32) + (1 : Int32)) + (1 : Int32)) + (1 : Int32)))]) rfl h) ?_
  show Go p e below _ s₁ (mkF m 29 #[.val (.ref t1), .val (.ref t2), .val (.int ((((0 : Int32) + (1 : Int32)) + (1 : Int32)) + (1 : Int32)))] [])
  refine Go.st (fun _ h => XS.goto X0.here hx rfl (pc0 := 29) (pc' := 9) rfl (hb hby d_jdk_43_method_13_code_29) (by decide) (by decide) h) ?_
  show Go p e below _ s₁ (mkF m 9 #[.val (.ref t1), .val (.ref t2), .val (.int ((((0 : Int32) + (1 : Int32)) + (1 : Int32)) + (1 : Int32)))] [])
  refine Go.st (fun _ h => XS.iloadN X0.here hx rfl (hb hby d_jdk_43_method_13_code_9) rfl h) ?_
  show Go p e below _ s₁ (mkF m 10 #[.val (.ref t1), .val (.ref t2), .val (.int ((((0 : Int32) + (1 : Int32)) + (1 : Int32)) + (1 : Int32)))] [(.int ((((0 : Int32) + (1 : Int32)) + (1 : Int32)) + (1 : Int32)))])
  refine Go.st (fun _ h => XS.aloadN X0.here hx rfl (hb hby d_jdk_43_method_13_code_10) rfl rfl h) ?_
  show Go p e below _ s₁ (mkF m 11 #[.val (.ref t1), .val (.ref t2), .val (.int ((((0 : Int32) + (1 : Int32)) + (1 : Int32)) + (1 : Int32)))] [(.ref t1), (.int ((((0 : Int32) + (1 : Int32)) + (1 : Int32)) + (1 : Int32)))])
  refine Go.st (own_len X0 hx hZ e0 B1 rfl rfl (hb hby d_jdk_43_method_13_code_11)) ?_
  show Go p e below _ s₁ (mkF m 12 #[.val (.ref t1), .val (.ref t2), .val (.int ((((0 : Int32) + (1 : Int32)) + (1 : Int32)) + (1 : Int32)))] [(.int (6 : Int32)), (.int ((((0 : Int32) + (1 : Int32)) + (1 : Int32)) + (1 : Int32)))])
  refine Go.st (fun _ h => XS.icmpNo X0.here hx rfl (hb hby d_jdk_43_method_13_code_12) rfl (by decide) h) ?_
  show Go p e below _ s₁ (mkF m 15 #[.val (.ref t1), .val (.ref t2), .val (.int ((((0 : Int32) + (1 : Int32)) + (1 : Int32)) + (1 : Int32)))] [])
  refine Go.st (fun _ h => XS.aloadN X0.here hx rfl (hb hby d_jdk_43_method_13_code_15) rfl rfl h) ?_
  show Go p e below _ s₁ (mkF m 16 #[.val (.ref t1), .val (.ref t2), .val (.int ((((0 : Int32) + (1 : Int32)) + (1 : Int32)) + (1 : Int32)))] [(.ref t1)])
  refine Go.st (fun _ h => XS.iloadN X0.here hx rfl (hb hby d_jdk_43_method_13_code_16) rfl h) ?_
  show Go p e below _ s₁ (mkF m 17 #[.val (.ref t1), .val (.ref t2), .val (.int ((((0 : Int32) + (1 : Int32)) + (1 : Int32)) + (1 : Int32)))] [(.int ((((0 : Int32) + (1 : Int32)) + (1 : Int32)) + (1 : Int32))), (.ref t1)])
  refine Go.st (own_ldB X0 hx hZ e0 B1 (by decide) (by decide) rfl rfl rfl (hb hby d_jdk_43_method_13_code_17)) ?_
  show Go p e below _ s₁ (mkF m 18 #[.val (.ref t1), .val (.ref t2), .val (.int ((((0 : Int32) + (1 : Int32)) + (1 : Int32)) + (1 : Int32)))] [(.int (97 : Int32))])
  refine Go.st (fun _ h => XS.aloadN X0.here hx rfl (hb hby d_jdk_43_method_13_code_18) rfl rfl h) ?_
  show Go p e below _ s₁ (mkF m 19 #[.val (.ref t1), .val (.ref t2), .val (.int ((((0 : Int32) + (1 : Int32)) + (1 : Int32)) + (1 : Int32)))] [(.ref t2), (.int (97 : Int32))])
  refine Go.st (fun _ h => XS.iloadN X0.here hx rfl (hb hby d_jdk_43_method_13_code_19) rfl h) ?_
  show Go p e below _ s₁ (mkF m 20 #[.val (.ref t1), .val (.ref t2), .val (.int ((((0 : Int32) + (1 : Int32)) + (1 : Int32)) + (1 : Int32)))] [(.int ((((0 : Int32) + (1 : Int32)) + (1 : Int32)) + (1 : Int32))), (.ref t2), (.int (97 : Int32))])
  refine Go.st (own_ldB X0 hx hZ e0 B2 (by decide) (by decide) rfl rfl rfl (hb hby d_jdk_43_method_13_code_20)) ?_
  show Go p e below _ s₁ (mkF m 21 #[.val (.ref t1), .val (.ref t2), .val (.int ((((0 : Int32) + (1 : Int32)) + (1 : Int32)) + (1 : Int32)))] [(.int (97 : Int32)), (.int (97 : Int32))])
  refine Go.st (fun _ h => XS.icmpYes X0.here hx rfl (pc0 := 21) (pc' := 26) rfl (hb hby d_jdk_43_method_13_code_21) rfl (by decide) (by decide) (by decide) h) ?_
  show Go p e below _ s₁ (mkF m 26 #[.val (.ref t1), .val (.ref t2), .val (.int ((((0 : Int32) + (1 : Int32)) + (1 : Int32)) + (1 : Int32)))] [])
  refine Go.st (fun _ h => XT.iincV X0.here hx rfl (1 : Int32) (hb hby d_jdk_43_method_13_code_26) (by decide) rfl (l' := #[.val (.ref t1), .val (.ref t2), .val (.int (((((0 : Int32) + (1 : Int32)) + (1 : Int32)) + (1 : Int32)) + (1 : Int32)))]) rfl h) ?_
  show Go p e below _ s₁ (mkF m 29 #[.val (.ref t1), .val (.ref t2), .val (.int (((((0 : Int32) + (1 : Int32)) + (1 : Int32)) + (1 : Int32)) + (1 : Int32)))] [])
  refine Go.st (fun _ h => XS.goto X0.here hx rfl (pc0 := 29) (pc' := 9) rfl (hb hby d_jdk_43_method_13_code_29) (by decide) (by decide) h) ?_
  show Go p e below _ s₁ (mkF m 9 #[.val (.ref t1), .val (.ref t2), .val (.int (((((0 : Int32) + (1 : Int32)) + (1 : Int32)) + (1 : Int32)) + (1 : Int32)))] [])
  refine Go.st (fun _ h => XS.iloadN X0.here hx rfl (hb hby d_jdk_43_method_13_code_9) rfl h) ?_
  show Go p e below _ s₁ (mkF m 10 #[.val (.ref t1), .val (.ref t2), .val (.int (((((0 : Int32) + (1 : Int32)) + (1 : Int32)) + (1 : Int32)) + (1 : Int32)))] [(.int (((((0 : Int32) + (1 : Int32)) + (1 : Int32)) + (1 : Int32)) + (1 : Int32)))])
  refine Go.st (fun _ h => XS.aloadN X0.here hx rfl (hb hby d_jdk_43_method_13_code_10) rfl rfl h) ?_
  show Go p e below _ s₁ (mkF m 11 #[.val (.ref t1), .val (.ref t2), .val (.int (((((0 : Int32) + (1 : Int32)) + (1 : Int32)) + (1 : Int32)) + (1 : Int32)))] [(.ref t1), (.int (((((0 : Int32) + (1 : Int32)) + (1 : Int32)) + (1 : Int32)) + (1 : Int32)))])
  refine Go.st (own_len X0 hx hZ e0 B1 rfl rfl (hb hby d_jdk_43_method_13_code_11)) ?_
  show Go p e below _ s₁ (mkF m 12 #[.val (.ref t1), .val (.ref t2), .val (.int (((((0 : Int32) + (1 : Int32)) + (1 : Int32)) + (1 : Int32)) + (1 : Int32)))] [(.int (6 : Int32)), (.int (((((0 : Int32) + (1 : Int32)) + (1 : Int32)) + (1 : Int32)) + (1 : Int32)))])
  refine Go.st (fun _ h => XS.icmpNo X0.here hx rfl (hb hby d_jdk_43_method_13_code_12) rfl (by decide) h) ?_
  show Go p e below _ s₁ (mkF m 15 #[.val (.ref t1), .val (.ref t2), .val (.int (((((0 : Int32) + (1 : Int32)) + (1 : Int32)) + (1 : Int32)) + (1 : Int32)))] [])
  refine Go.st (fun _ h => XS.aloadN X0.here hx rfl (hb hby d_jdk_43_method_13_code_15) rfl rfl h) ?_
  show Go p e below _ s₁ (mkF m 16 #[.val (.ref t1), .val (.ref t2), .val (.int (((((0 : Int32) + (1 : Int32)) + (1 : Int32)) + (1 : Int32)) + (1 : Int32)))] [(.ref t1)])
  refine Go.st (fun _ h => XS.iloadN X0.here hx rfl (hb hby d_jdk_43_method_13_code_16) rfl h) ?_
  show Go p e below _ s₁ (mkF m 17 #[.val (.ref t1), .val (.ref t2), .val (.int (((((0 : Int32) + (1 : Int32)) + (1 : Int32)) + (1 : Int32)) + (1 : Int32)))] [(.int (((((0 : Int32) + (1 : Int32)) + (1 : Int32)) + (1 : Int32)) + (1 : Int32))), (.ref t1)])
  refine Go.st (own_ldB X0 hx hZ e0 B1 (by decide) (by decide) rfl rfl rfl (hb hby d_jdk_43_method_13_code_17)) ?_
  show Go p e below _ s₁ (mkF m 18 #[.val (.ref t1), .val (.ref t2), .val (.int (((((0 : Int32) + (1 : Int32)) + (1 : Int32)) + (1 : Int32)) + (1 : Int32)))] [(.int (105 : Int32))])
  refine Go.st (fun _ h => XS.aloadN X0.here hx rfl (hb hby d_jdk_43_method_13_code_18) rfl rfl h) ?_
  show Go p e below _ s₁ (mkF m 19 #[.val (.ref t1), .val (.ref t2), .val (.int (((((0 : Int32) + (1 : Int32)) + (1 : Int32)) + (1 : Int32)) + (1 : Int32)))] [(.ref t2), (.int (105 : Int32))])
  refine Go.st (fun _ h => XS.iloadN X0.here hx rfl (hb hby d_jdk_43_method_13_code_19) rfl h) ?_
  show Go p e below _ s₁ (mkF m 20 #[.val (.ref t1), .val (.ref t2), .val (.int (((((0 : Int32) + (1 : Int32)) + (1 : Int32)) + (1 : Int32)) + (1 : Int32)))] [(.int (((((0 : Int32) + (1 : Int32)) + (1 : Int32)) + (1 : Int32)) + (1 : Int32))), (.ref t2), (.int (105 : Int32))])
  refine Go.st (own_ldB X0 hx hZ e0 B2 (by decide) (by decide) rfl rfl rfl (hb hby d_jdk_43_method_13_code_20)) ?_
  show Go p e below _ s₁ (mkF m 21 #[.val (.ref t1), .val (.ref t2), .val (.int (((((0 : Int32) + (1 : Int32)) + (1 : Int32)) + (1 : Int32)) + (1 : Int32)))] [(.int (105 : Int32)), (.int (105 : Int32))])
  refine Go.st (fun _ h => XS.icmpYes X0.here hx rfl (pc0 := 21) (pc' := 26) rfl (hb hby d_jdk_43_method_13_code_21) rfl (by decide) (by decide) (by decide) h) ?_
  show Go p e below _ s₁ (mkF m 26 #[.val (.ref t1), .val (.ref t2), .val (.int (((((0 : Int32) + (1 : Int32)) + (1 : Int32)) + (1 : Int32)) + (1 : Int32)))] [])
  refine Go.st (fun _ h => XT.iincV X0.here hx rfl (1 : Int32) (hb hby d_jdk_43_method_13_code_26) (by decide) rfl (l' := #[.val (.ref t1), .val (.ref t2), .val (.int ((((((0 : Int32) + (1 : Int32)) + (1 : Int32)) + (1 : Int32)) + (1 : Int32)) + (1 : Int32)))]) rfl h) ?_
  show Go p e below _ s₁ (mkF m 29 #[.val (.ref t1), .val (.ref t2), .val (.int ((((((0 : Int32) + (1 : Int32)) + (1 : Int32)) + (1 : Int32)) + (1 : Int32)) + (1 : Int32)))] [])
  refine Go.st (fun _ h => XS.goto X0.here hx rfl (pc0 := 29) (pc' := 9) rfl (hb hby d_jdk_43_method_13_code_29) (by decide) (by decide) h) ?_
  show Go p e below _ s₁ (mkF m 9 #[.val (.ref t1), .val (.ref t2), .val (.int ((((((0 : Int32) + (1 : Int32)) + (1 : Int32)) + (1 : Int32)) + (1 : Int32)) + (1 : Int32)))] [])
  refine Go.st (fun _ h => XS.iloadN X0.here hx rfl (hb hby d_jdk_43_method_13_code_9) rfl h) ?_
  show Go p e below _ s₁ (mkF m 10 #[.val (.ref t1), .val (.ref t2), .val (.int ((((((0 : Int32) + (1 : Int32)) + (1 : Int32)) + (1 : Int32)) + (1 : Int32)) + (1 : Int32)))] [(.int ((((((0 : Int32) + (1 : Int32)) + (1 : Int32)) + (1 : Int32)) + (1 : Int32)) + (1 : Int32)))])
  refine Go.st (fun _ h => XS.aloadN X0.here hx rfl (hb hby d_jdk_43_method_13_code_10) rfl rfl h) ?_
  show Go p e below _ s₁ (mkF m 11 #[.val (.ref t1), .val (.ref t2), .val (.int ((((((0 : Int32) + (1 : Int32)) + (1 : Int32)) + (1 : Int32)) + (1 : Int32)) + (1 : Int32)))] [(.ref t1), (.int ((((((0 : Int32) + (1 : Int32)) + (1 : Int32)) + (1 : Int32)) + (1 : Int32)) + (1 : Int32)))])
  refine Go.st (own_len X0 hx hZ e0 B1 rfl rfl (hb hby d_jdk_43_method_13_code_11)) ?_
  show Go p e below _ s₁ (mkF m 12 #[.val (.ref t1), .val (.ref t2), .val (.int ((((((0 : Int32) + (1 : Int32)) + (1 : Int32)) + (1 : Int32)) + (1 : Int32)) + (1 : Int32)))] [(.int (6 : Int32)), (.int ((((((0 : Int32) + (1 : Int32)) + (1 : Int32)) + (1 : Int32)) + (1 : Int32)) + (1 : Int32)))])
  refine Go.st (fun _ h => XS.icmpNo X0.here hx rfl (hb hby d_jdk_43_method_13_code_12) rfl (by decide) h) ?_
  show Go p e below _ s₁ (mkF m 15 #[.val (.ref t1), .val (.ref t2), .val (.int ((((((0 : Int32) + (1 : Int32)) + (1 : Int32)) + (1 : Int32)) + (1 : Int32)) + (1 : Int32)))] [])
  refine Go.st (fun _ h => XS.aloadN X0.here hx rfl (hb hby d_jdk_43_method_13_code_15) rfl rfl h) ?_
  show Go p e below _ s₁ (mkF m 16 #[.val (.ref t1), .val (.ref t2), .val (.int ((((((0 : Int32) + (1 : Int32)) + (1 : Int32)) + (1 : Int32)) + (1 : Int32)) + (1 : Int32)))] [(.ref t1)])
  refine Go.st (fun _ h => XS.iloadN X0.here hx rfl (hb hby d_jdk_43_method_13_code_16) rfl h) ?_
  show Go p e below _ s₁ (mkF m 17 #[.val (.ref t1), .val (.ref t2), .val (.int ((((((0 : Int32) + (1 : Int32)) + (1 : Int32)) + (1 : Int32)) + (1 : Int32)) + (1 : Int32)))] [(.int ((((((0 : Int32) + (1 : Int32)) + (1 : Int32)) + (1 : Int32)) + (1 : Int32)) + (1 : Int32))), (.ref t1)])
  refine Go.st (own_ldB X0 hx hZ e0 B1 (by decide) (by decide) rfl rfl rfl (hb hby d_jdk_43_method_13_code_17)) ?_
  show Go p e below _ s₁ (mkF m 18 #[.val (.ref t1), .val (.ref t2), .val (.int ((((((0 : Int32) + (1 : Int32)) + (1 : Int32)) + (1 : Int32)) + (1 : Int32)) + (1 : Int32)))] [(.int (108 : Int32))])
  refine Go.st (fun _ h => XS.aloadN X0.here hx rfl (hb hby d_jdk_43_method_13_code_18) rfl rfl h) ?_
  show Go p e below _ s₁ (mkF m 19 #[.val (.ref t1), .val (.ref t2), .val (.int ((((((0 : Int32) + (1 : Int32)) + (1 : Int32)) + (1 : Int32)) + (1 : Int32)) + (1 : Int32)))] [(.ref t2), (.int (108 : Int32))])
  refine Go.st (fun _ h => XS.iloadN X0.here hx rfl (hb hby d_jdk_43_method_13_code_19) rfl h) ?_
  show Go p e below _ s₁ (mkF m 20 #[.val (.ref t1), .val (.ref t2), .val (.int ((((((0 : Int32) + (1 : Int32)) + (1 : Int32)) + (1 : Int32)) + (1 : Int32)) + (1 : Int32)))] [(.int ((((((0 : Int32) + (1 : Int32)) + (1 : Int32)) + (1 : Int32)) + (1 : Int32)) + (1 : Int32))), (.ref t2), (.int (108 : Int32))])
  refine Go.st (own_ldB X0 hx hZ e0 B2 (by decide) (by decide) rfl rfl rfl (hb hby d_jdk_43_method_13_code_20)) ?_
  show Go p e below _ s₁ (mkF m 21 #[.val (.ref t1), .val (.ref t2), .val (.int ((((((0 : Int32) + (1 : Int32)) + (1 : Int32)) + (1 : Int32)) + (1 : Int32)) + (1 : Int32)))] [(.int (108 : Int32)), (.int (108 : Int32))])
  refine Go.st (fun _ h => XS.icmpYes X0.here hx rfl (pc0 := 21) (pc' := 26) rfl (hb hby d_jdk_43_method_13_code_21) rfl (by decide) (by decide) (by decide) h) ?_
  show Go p e below _ s₁ (mkF m 26 #[.val (.ref t1), .val (.ref t2), .val (.int ((((((0 : Int32) + (1 : Int32)) + (1 : Int32)) + (1 : Int32)) + (1 : Int32)) + (1 : Int32)))] [])
  refine Go.st (fun _ h => XT.iincV X0.here hx rfl (1 : Int32) (hb hby d_jdk_43_method_13_code_26) (by decide) rfl (l' := #[.val (.ref t1), .val (.ref t2), .val (.int (((((((0 : Int32) + (1 : Int32)) + (1 : Int32)) + (1 : Int32)) + (1 : Int32)) + (1 : Int32)) + (1 : Int32)))]) rfl h) ?_
  show Go p e below _ s₁ (mkF m 29 #[.val (.ref t1), .val (.ref t2), .val (.int (((((((0 : Int32) + (1 : Int32)) + (1 : Int32)) + (1 : Int32)) + (1 : Int32)) + (1 : Int32)) + (1 : Int32)))] [])
  refine Go.st (fun _ h => XS.goto X0.here hx rfl (pc0 := 29) (pc' := 9) rfl (hb hby d_jdk_43_method_13_code_29) (by decide) (by decide) h) ?_
  show Go p e below _ s₁ (mkF m 9 #[.val (.ref t1), .val (.ref t2), .val (.int (((((((0 : Int32) + (1 : Int32)) + (1 : Int32)) + (1 : Int32)) + (1 : Int32)) + (1 : Int32)) + (1 : Int32)))] [])
  refine Go.st (fun _ h => XS.iloadN X0.here hx rfl (hb hby d_jdk_43_method_13_code_9) rfl h) ?_
  show Go p e below _ s₁ (mkF m 10 #[.val (.ref t1), .val (.ref t2), .val (.int (((((((0 : Int32) + (1 : Int32)) + (1 : Int32)) + (1 : Int32)) + (1 : Int32)) + (1 : Int32)) + (1 : Int32)))] [(.int (((((((0 : Int32) + (1 : Int32)) + (1 : Int32)) + (1 : Int32)) + (1 : Int32)) + (1 : Int32)) + (1 : Int32)))])
  refine Go.st (fun _ h => XS.aloadN X0.here hx rfl (hb hby d_jdk_43_method_13_code_10) rfl rfl h) ?_
  show Go p e below _ s₁ (mkF m 11 #[.val (.ref t1), .val (.ref t2), .val (.int (((((((0 : Int32) + (1 : Int32)) + (1 : Int32)) + (1 : Int32)) + (1 : Int32)) + (1 : Int32)) + (1 : Int32)))] [(.ref t1), (.int (((((((0 : Int32) + (1 : Int32)) + (1 : Int32)) + (1 : Int32)) + (1 : Int32)) + (1 : Int32)) + (1 : Int32)))])
  refine Go.st (own_len X0 hx hZ e0 B1 rfl rfl (hb hby d_jdk_43_method_13_code_11)) ?_
  show Go p e below _ s₁ (mkF m 12 #[.val (.ref t1), .val (.ref t2), .val (.int (((((((0 : Int32) + (1 : Int32)) + (1 : Int32)) + (1 : Int32)) + (1 : Int32)) + (1 : Int32)) + (1 : Int32)))] [(.int (6 : Int32)), (.int (((((((0 : Int32) + (1 : Int32)) + (1 : Int32)) + (1 : Int32)) + (1 : Int32)) + (1 : Int32)) + (1 : Int32)))])
  refine Go.st (fun _ h => XS.icmpYes X0.here hx rfl (pc0 := 12) (pc' := 32) rfl (hb hby d_jdk_43_method_13_code_12) rfl (by decide) (by decide) (by decide) h) ?_
  show Go p e below _ s₁ (mkF m 32 #[.val (.ref t1), .val (.ref t2), .val (.int (((((((0 : Int32) + (1 : Int32)) + (1 : Int32)) + (1 : Int32)) + (1 : Int32)) + (1 : Int32)) + (1 : Int32)))] [])
  refine Go.st (fun _ h => XT.iconstV X0.here hx rfl (1 : Int32) (hb hby d_jdk_43_method_13_code_32) (by decide) h) ?_
  show Go p e below _ s₁ (mkF m 33 #[.val (.ref t1), .val (.ref t2), .val (.int (((((((0 : Int32) + (1 : Int32)) + (1 : Int32)) + (1 : Int32)) + (1 : Int32)) + (1 : Int32)) + (1 : Int32)))] [(.int (1 : Int32))])
  refine Go.retZ X0 hx hlk hret rfl (hb hby d_jdk_43_method_13_code_33) (by decide) (by decide) ?_
  exact ⟨rfl, rfl, e0⟩
theorem ef_rmEq_EMail (x0 : Addr) (x1 : Addr) (m : MethodId) : entryFrame m #[(.ref x0), (.ref x1)] 3 = mkF m 0 #[.val (.ref x0), .val (.ref x1), .unset] [] := by first | (simp [entryFrame, mkF, argsToLocals, Value.category]; done) | rfl
set_option maxRecDepth 65536 in
set_option maxHeartbeats 40000000 in
theorem rmEq_EMail (l : Launch) (Z : State) (a0 : Array Value) (hw : ∀ d ∈ tables_1, d.before a0 Z = true) (g1 g2 t1 t2 : Addr) (k1 k2 : ClassId) (zc : Int32) (h0 : Heap) (E_g1 : Exa Z h0 g1 "java/lang/String") (C_g1 : Fld Z h0 g1 "java/lang/String" "coder" "B" (.int (0 : Int32))) (V_g1 : Fld Z h0 g1 "java/lang/String" "value" "[B" (.ref t1)) (E_g2 : Exa Z h0 g2 "java/lang/String") (C_g2 : Fld Z h0 g2 "java/lang/String" "coder" "B" (.int (0 : Int32))) (V_g2 : Fld Z h0 g2 "java/lang/String" "value" "[B" (.ref t2)) (B1 : Arv Z h0 t1 k1 .byte (6 : Int32) [(.int (69 : Int32)), (.int (45 : Int32)), (.int (77 : Int32)), (.int (97 : Int32)), (.int (105 : Int32)), (.int (108 : Int32))] (.int (0 : Int32))) (B2 : Arv Z h0 t2 k2 .byte (6 : Int32) [(.int (69 : Int32)), (.int (45 : Int32)), (.int (77 : Int32)), (.int (97 : Int32)), (.int (105 : Int32)), (.int (108 : Int32))] (.int (0 : Int32))) (S_CS : Sta Z h0 "java/lang/String" "COMPACT_STRINGS" "Z" (.int zc)) (hzc : ¬ zc = (0 : Int32)) :
    Does l Z (⟨"java/lang/String", "equals", "(Ljava/lang/Object;)Z"⟩ : MethodName) jdk_42_method_66_code 3 (some .boolean) [] ({ frames := 1, cells := 0, slots := 0, locals := 14 } : Room) #[(.ref g1), (.ref g2)] h0 (Val (some (.int (1 : Int32))) h0) := by
  refine Does.intro pn_java_lang_String (ef_rmEq_EMail g1 g2) ?_
  intro p e s m below meth c s₁ hx hby hml hown hnm hret hlk hZ e0 X0
  show Go p e below _ s₁ (mkF m 0 #[.val (.ref g1), .val (.ref g2), .unset] [])
  refine Go.st (fun _ h => XS.aloadN X0.here hx rfl (hb hby d_jdk_42_method_66_code_0) rfl rfl h) ?_
  show Go p e below _ s₁ (mkF m 1 #[.val (.ref g1), .val (.ref g2), .unset] [(.ref g1)])
  refine Go.st (fun _ h => XS.aloadN X0.here hx rfl (hb hby d_jdk_42_method_66_code_1) rfl rfl h) ?_
  show Go p e below _ s₁ (mkF m 2 #[.val (.ref g1), .val (.ref g2), .unset] [(.ref g2), (.ref g1)])
  by_cases hc1 : g1 = g2
  · refine Go.st (fun _ h => XT.acmpNo X0.here hx rfl (hb hby d_jdk_42_method_66_code_2) rfl rfl rfl ((own_aeq hc1).2) h) ?_
    show Go p e below _ s₁ (mkF m 5 #[.val (.ref g1), .val (.ref g2), .unset] [])
    refine Go.st (fun _ h => XT.iconstV X0.here hx rfl (1 : Int32) (hb hby d_jdk_42_method_66_code_5) (by decide) h) ?_
    show Go p e below _ s₁ (mkF m 6 #[.val (.ref g1), .val (.ref g2), .unset] [(.int (1 : Int32))])
    refine Go.retZ X0 hx hlk hret rfl (hb hby d_jdk_42_method_66_code_6) (by decide) (by decide) ?_
    exact ⟨rfl, rfl, e0⟩
  · refine Go.st (fun _ h => XT.acmpYes X0.here hx rfl (pc0 := 2) (pc' := 7) rfl (hb hby d_jdk_42_method_66_code_2) rfl rfl rfl ((own_ane hc1).2) (by decide) (by decide) h) ?_
    show Go p e below _ s₁ (mkF m 7 #[.val (.ref g1), .val (.ref g2), .unset] [])
    refine Go.st (fun _ h => XS.aloadN X0.here hx rfl (hb hby d_jdk_42_method_66_code_7) rfl rfl h) ?_
    show Go p e below _ s₁ (mkF m 8 #[.val (.ref g1), .val (.ref g2), .unset] [(.ref g2)])
    obtain ⟨T2, X2, e2, st2⟩ := instY X0 hx hZ hown (hw _ (List.mem_of_getElem? (i := 42) rfl)) e0 (Ins.self E_g2) (g := (mkF m 8 #[.val (.ref g1), .val (.ref g2), .unset] [(.ref g2)])) rfl rfl (hb hby d_jdk_42_method_66_code_8)
    refine Go.st st2 ?_
    show Go p e below _ T2 (mkF m 11 #[.val (.ref g1), .val (.ref g2), .unset] [(.int (1 : Int32))])
    refine Go.st (fun _ h => XS.ifNo X2.here hx rfl (hb hby d_jdk_42_method_66_code_11) rfl (by decide) h) ?_
    show Go p e below _ T2 (mkF m 14 #[.val (.ref g1), .val (.ref g2), .unset] [])
    refine Go.st (fun _ h => XS.aloadN X2.here hx rfl (hb hby d_jdk_42_method_66_code_14) rfl rfl h) ?_
    show Go p e below _ T2 (mkF m 15 #[.val (.ref g1), .val (.ref g2), .unset] [(.ref g2)])
    obtain ⟨T3, X3, e3, st3⟩ := castY X2 hx hZ hown (hw _ (List.mem_of_getElem? (i := 42) rfl)) e2 (Ins.self E_g2) (g := (mkF m 15 #[.val (.ref g1), .val (.ref g2), .unset] [(.ref g2)])) rfl rfl (hb hby d_jdk_42_method_66_code_15)
    refine Go.st st3 ?_
    show Go p e below _ T3 (mkF m 18 #[.val (.ref g1), .val (.ref g2), .unset] [(.ref g2)])
    refine Go.st (fun _ h => XS.astoreN X3.here hx rfl (hb hby d_jdk_42_method_66_code_18) rfl rfl (l' := #[.val (.ref g1), .val (.ref g2), .val (.ref g2)]) rfl h) ?_
    show Go p e below _ T3 (mkF m 19 #[.val (.ref g1), .val (.ref g2), .val (.ref g2)] [])
    obtain ⟨T4, X4, e4, st4⟩ := getS2 X3 hx hZ hown (host := "") (Or.inl (hw _ (List.mem_of_getElem? (i := 44) rfl))) Via.refl e3 S_CS (g := (mkF m 19 #[.val (.ref g1), .val (.ref g2), .val (.ref g2)] [])) rfl (hb hby d_jdk_42_method_66_code_19)
    refine Go.st st4 ?_
    show Go p e below _ T4 (mkF m 22 #[.val (.ref g1), .val (.ref g2), .val (.ref g2)] [(.int zc)])
    refine Go.st (fun _ h => XS.ifNo X4.here hx rfl (hb hby d_jdk_42_method_66_code_22) rfl ((if0 _ _).trans (feq (hzc : ¬ (zc = (0 : Int32)))).1) h) ?_
    show Go p e below _ T4 (mkF m 25 #[.val (.ref g1), .val (.ref g2), .val (.ref g2)] [])
    refine Go.st (fun _ h => XS.aloadN X4.here hx rfl (hb hby d_jdk_42_method_66_code_25) rfl rfl h) ?_
    show Go p e below _ T4 (mkF m 26 #[.val (.ref g1), .val (.ref g2), .val (.ref g2)] [(.ref g1)])
    obtain ⟨T5, X5, e5, st5⟩ := getF X4 hx hZ hown (host := "") (Or.inl (hw _ (List.mem_of_getElem? (i := 45) rfl))) Via.refl e4 C_g1 (g := (mkF m 26 #[.val (.ref g1), .val (.ref g2), .val (.ref g2)] [(.ref g1)])) rfl rfl (hb hby d_jdk_42_method_66_code_26)
    refine Go.st st5 ?_
    show Go p e below _ T5 (mkF m 29 #[.val (.ref g1), .val (.ref g2), .val (.ref g2)] [(.int (0 : Int32))])
    refine Go.st (fun _ h => XS.aloadN X5.here hx rfl (hb hby d_jdk_42_method_66_code_29) rfl rfl h) ?_
    show Go p e below _ T5 (mkF m 30 #[.val (.ref g1), .val (.ref g2), .val (.ref g2)] [(.ref g2), (.int (0 : Int32))])
    obtain ⟨T6, X6, e6, st6⟩ := getF X5 hx hZ hown (host := "") (Or.inl (hw _ (List.mem_of_getElem? (i := 45) rfl))) Via.refl e5 C_g2 (g := (mkF m 30 #[.val (.ref g1), .val (.ref g2), .val (.ref g2)] [(.ref g2), (.int (0 : Int32))])) rfl rfl (hb hby d_jdk_42_method_66_code_30)
    refine Go.st st6 ?_
    show Go p e below _ T6 (mkF m 33 #[.val (.ref g1), .val (.ref g2), .val (.ref g2)] [(.int (0 : Int32)), (.int (0 : Int32))])
    refine Go.st (fun _ h => XS.icmpNo X6.here hx rfl (hb hby d_jdk_42_method_66_code_33) rfl (by decide) h) ?_
    show Go p e below _ T6 (mkF m 36 #[.val (.ref g1), .val (.ref g2), .val (.ref g2)] [])
    refine Go.st (fun _ h => XS.aloadN X6.here hx rfl (hb hby d_jdk_42_method_66_code_36) rfl rfl h) ?_
    show Go p e below _ T6 (mkF m 37 #[.val (.ref g1), .val (.ref g2), .val (.ref g2)] [(.ref g1)])
    obtain ⟨T7, X7, e7, st7⟩ := getF X6 hx hZ hown (host := "") (Or.inl (hw _ (List.mem_of_getElem? (i := 46) rfl))) Via.refl e6 V_g1 (g := (mkF m 37 #[.val (.ref g1), .val (.ref g2), .val (.ref g2)] [(.ref g1)])) rfl rfl (hb hby d_jdk_42_method_66_code_37)
    refine Go.st st7 ?_
    show Go p e below _ T7 (mkF m 40 #[.val (.ref g1), .val (.ref g2), .val (.ref g2)] [(.ref t1)])
    refine Go.st (fun _ h => XS.aloadN X7.here hx rfl (hb hby d_jdk_42_method_66_code_40) rfl rfl h) ?_
    show Go p e below _ T7 (mkF m 41 #[.val (.ref g1), .val (.ref g2), .val (.ref g2)] [(.ref g2), (.ref t1)])
    obtain ⟨T8, X8, e8, st8⟩ := getF X7 hx hZ hown (host := "") (Or.inl (hw _ (List.mem_of_getElem? (i := 46) rfl))) Via.refl e7 V_g2 (g := (mkF m 41 #[.val (.ref g1), .val (.ref g2), .val (.ref g2)] [(.ref g2), (.ref t1)])) rfl rfl (hb hby d_jdk_42_method_66_code_41)
    refine Go.st st8 ?_
    show Go p e below _ T8 (mkF m 44 #[.val (.ref g1), .val (.ref g2), .val (.ref g2)] [(.ref t2), (.ref t1)])
    obtain ⟨T9, X9, e9, st9⟩ := own_still rfl rfl (Does.static (y := (⟨"java/lang/StringLatin1", "equals", "([B[B)Z"⟩ : MethodName)) (g := (mkF m 44 #[.val (.ref g1), .val (.ref g2), .val (.ref g2)] [(.ref t2), (.ref t1)])) (rmLat_EMail l Z a0 hw t1 t2 k1 k2 h0 B1 B2) X8 hx hZ hown e8 (hw _ (List.mem_of_getElem? (i := 47) rfl)) (hw _ (List.mem_of_getElem? (i := 48) rfl)) (hw _ (List.mem_of_getElem? (i := 49) rfl)) (hw _ (List.mem_of_getElem? (i := 50) rfl)) (by decide) rfl (by rw [hml]; rfl) (argsL := [(.ref t1), (.ref t2)]) (rest := []) (lenOf pd_285bB5bB29Z rfl) rfl (hb hby d_jdk_42_method_66_code_44) (W := 0) (by show 2 * 0 + _ ≤ _; exact Nat.le_of_eq rfl) (by decide) (by decide) (by decide) (by decide))
    refine Go.st st9 ?_
    show Go p e below _ T9 (mkF m 47 #[.val (.ref g1), .val (.ref g2), .val (.ref g2)] [(.int (1 : Int32))])
    refine Go.st (fun _ h => XS.ifNo X9.here hx rfl (hb hby d_jdk_42_method_66_code_47) rfl (by decide) h) ?_
    show Go p e below _ T9 (mkF m 50 #[.val (.ref g1), .val (.ref g2), .val (.ref g2)] [])
    refine Go.st (fun _ h => XT.iconstV X9.here hx rfl (1 : Int32) (hb hby d_jdk_42_method_66_code_50) (by decide) h) ?_
    show Go p e below _ T9 (mkF m 51 #[.val (.ref g1), .val (.ref g2), .val (.ref g2)] [(.int (1 : Int32))])
    refine Go.st (fun _ h => XS.goto X9.here hx rfl (pc0 := 51) (pc' := 55) rfl (hb hby d_jdk_42_method_66_code_51) (by decide) (by decide) h) ?_
    show Go p e below _ T9 (mkF m 55 #[.val (.ref g1), .val (.ref g2), .val (.ref g2)] [(.int (1 : Int32))])
    refine Go.retZ X9 hx hlk hret rfl (hb hby d_jdk_42_method_66_code_55) (by decide) (by decide) ?_
    exact ⟨rfl, rfl, e9⟩
theorem ef_rmOrd (x0 : Addr) (m : MethodId) : entryFrame m #[(.ref x0)] 1 = mkF m 0 #[.val (.ref x0)] [] := by first | (simp [entryFrame, mkF, argsToLocals, Value.category]; done) | rfl
set_option maxRecDepth 65536 in
set_option maxHeartbeats 40000000 in
theorem rmOrd (l : Launch) (Z : State) (a0 : Array Value) (hw : ∀ d ∈ tables_1, d.before a0 Z = true) (a1 : Addr) (o : Int32) (h0 : Heap) (F1 : Fld Z h0 a1 "java/lang/Enum" "ordinal" "I" (.int o)) :
    Does l Z (⟨"java/lang/Enum", "ordinal", "()I"⟩ : MethodName) jdk_37_method_2_code 1 (some .int) [] ({ frames := 0, cells := 0, slots := 0, locals := 0 } : Room) #[(.ref a1)] h0 (Val (some (.int o)) h0) := by
  refine Does.intro pn_java_lang_Enum (ef_rmOrd a1) ?_
  intro p e s m below meth c s₁ hx hby hml hown hnm hret hlk hZ e0 X0
  show Go p e below _ s₁ (mkF m 0 #[.val (.ref a1)] [])
  refine Go.st (fun _ h => XS.aloadN X0.here hx rfl (hb hby d_jdk_37_method_2_code_0) rfl rfl h) ?_
  show Go p e below _ s₁ (mkF m 1 #[.val (.ref a1)] [(.ref a1)])
  obtain ⟨T1, X1, e1, st1⟩ := getF X0 hx hZ hown (host := "") (Or.inl (hw _ (List.mem_of_getElem? (i := 35) rfl))) Via.refl e0 F1 (g := (mkF m 1 #[.val (.ref a1)] [(.ref a1)])) rfl rfl (hb hby d_jdk_37_method_2_code_1)
  refine Go.st st1 ?_
  show Go p e below _ T1 (mkF m 4 #[.val (.ref a1)] [(.int o)])
  refine Go.retI X1 hx hlk hret (hb hby d_jdk_37_method_2_code_4) (by decide) (by decide) ?_
  exact ⟨rfl, rfl, e1⟩
theorem ef_rmPick0 (x0 : Addr) (x1 : Addr) (x2 : Addr) (m : MethodId) : entryFrame m #[(.ref x0), (.ref x1), (.ref x2)] 3 = mkF m 0 #[.val (.ref x0), .val (.ref x1), .val (.ref x2)] [] := by first | (simp [entryFrame, mkF, argsToLocals, Value.category]; done) | rfl
set_option maxRecDepth 65536 in
set_option maxHeartbeats 40000000 in
theorem rmPick0 (l : Launch) (Z : State) (a0 : Array Value) (hw : ∀ d ∈ tables_1, d.before a0 Z = true) (a1 s1 s2 : Addr) (h0 : Heap) (E1 : Exa Z h0 a1 "einwilligung/wordings/Language") (F1 : Fld Z h0 a1 "java/lang/Enum" "ordinal" "I" (.int (0 : Int32))) :
    Does l Z (⟨"einwilligung/wordings/Language", "pick", "(Ljava/lang/String;Ljava/lang/String;)Ljava/lang/String;"⟩ : MethodName) prog_51_method_5_code 3 (some (.object "java/lang/String")) [] ({ frames := 1, cells := 0, slots := 0, locals := 12 } : Room) #[(.ref a1), (.ref s1), (.ref s2)] h0 (Val (some (.ref s1)) h0) := by
  refine Does.intro pn_einwilligung_wordings_Language (ef_rmPick0 a1 s1 s2) ?_
  intro p e s m below meth c s₁ hx hby hml hown hnm hret hlk hZ e0 X0
  show Go p e below _ s₁ (mkF m 0 #[.val (.ref a1), .val (.ref s1), .val (.ref s2)] [])
  refine Go.st (fun _ h => XS.aloadN X0.here hx rfl (hb hby d_prog_51_method_5_code_0) rfl rfl h) ?_
  show Go p e below _ s₁ (mkF m 1 #[.val (.ref a1), .val (.ref s1), .val (.ref s2)] [(.ref a1)])
  obtain ⟨T1, X1, e1, st1⟩ := own_still rfl rfl (Does.virtualUp (x' := (⟨"einwilligung/wordings/Language", "ordinal", "()I"⟩ : MethodName)) (z := (⟨"java/lang/Enum", "ordinal", "()I"⟩ : MethodName)) (owner := "java/lang/Enum") (g := (mkF m 1 #[.val (.ref a1), .val (.ref s1), .val (.ref s2)] [(.ref a1)])) (a := a1) (rmOrd l Z a0 hw a1 (0 : Int32) h0 F1) X0 hx hZ hown e0 E1 (hw _ (List.mem_of_getElem? (i := 28) rfl)) (hw _ (List.mem_of_getElem? (i := 29) rfl)) (hw _ (List.mem_of_getElem? (i := 30) rfl)) (hw _ (List.mem_of_getElem? (i := 32) rfl)) (hw _ (List.mem_of_getElem? (i := 31) rfl)) (hw _ (List.mem_of_getElem? (i := 33) rfl)) (hw _ (List.mem_of_getElem? (i := 34) rfl)) (by decide) rfl (by rw [hml]; rfl) (argsL := []) (rest := []) (lenOf pd_2829I rfl) rfl (hb hby d_prog_51_method_5_code_1) (W := 0) (by show 2 * 0 + _ ≤ _; exact Nat.le_of_eq rfl) (by decide) (by decide) (by decide) (by decide))
  refine Go.st st1 ?_
  show Go p e below _ T1 (mkF m 4 #[.val (.ref a1), .val (.ref s1), .val (.ref s2)] [(.int (0 : Int32))])
  refine Go.st (own_lswHit X1 hx (g := (mkF m 4 #[.val (.ref a1), .val (.ref s1), .val (.ref s2)] [(.int (0 : Int32))])) rfl rfl (hb hby d_prog_51_method_5_code_4) (by decide) (a := 0) (off := 38) (by decide +kernel) (pc0 := 4) (pc' := 42) rfl (by decide) (by decide)) ?_
  show Go p e below _ T1 (mkF m 42 #[.val (.ref a1), .val (.ref s1), .val (.ref s2)] [])
  refine Go.st (fun _ h => XS.aloadN X1.here hx rfl (hb hby d_prog_51_method_5_code_42) rfl rfl h) ?_
  show Go p e below _ T1 (mkF m 43 #[.val (.ref a1), .val (.ref s1), .val (.ref s2)] [(.ref s1)])
  refine Go.st (fun _ h => XS.goto X1.here hx rfl (pc0 := 43) (pc' := 47) rfl (hb hby d_prog_51_method_5_code_43) (by decide) (by decide) h) ?_
  show Go p e below _ T1 (mkF m 47 #[.val (.ref a1), .val (.ref s1), .val (.ref s2)] [(.ref s1)])
  refine Go.retA X1 hx hlk hret rfl rfl rfl (hb hby d_prog_51_method_5_code_47) (by decide) (by decide) ?_
  exact ⟨rfl, rfl, e1⟩
theorem ef_rmLabel0 (x0 : Addr) (x1 : Addr) (m : MethodId) : entryFrame m #[(.ref x0), (.ref x1)] 2 = mkF m 0 #[.val (.ref x0), .val (.ref x1)] [] := by first | (simp [entryFrame, mkF, argsToLocals, Value.category]; done) | rfl
set_option maxRecDepth 65536 in
set_option maxHeartbeats 40000000 in
theorem rmLabel0 (l : Launch) (Z : State) (a0 : Array Value) (hw : ∀ d ∈ tables_1, d.before a0 Z = true) (c1 a1 s1 s2 : Addr) (h0 : Heap) (E1 : Exa Z h0 a1 "einwilligung/wordings/Language") (F1 : Fld Z h0 a1 "java/lang/Enum" "ordinal" "I" (.int (0 : Int32))) (G1 : Fld Z h0 c1 "einwilligung/ledger/Channel" "german" "Ljava/lang/String;" (.ref s1)) (G2 : Fld Z h0 c1 "einwilligung/ledger/Channel" "english" "Ljava/lang/String;" (.ref s2)) :
    Does l Z (⟨"einwilligung/ledger/Channel", "label", "(Leinwilligung/wordings/Language;)Ljava/lang/String;"⟩ : MethodName) prog_27_method_4_code 2 (some (.object "java/lang/String")) [] ({ frames := 2, cells := 0, slots := 0, locals := 26 } : Room) #[(.ref c1), (.ref a1)] h0 (Val (some (.ref s1)) h0) := by
  refine Does.intro pn_einwilligung_ledger_Channel (ef_rmLabel0 c1 a1) ?_
  intro p e s m below meth c s₁ hx hby hml hown hnm hret hlk hZ e0 X0
  show Go p e below _ s₁ (mkF m 0 #[.val (.ref c1), .val (.ref a1)] [])
  refine Go.st (fun _ h => XS.aloadN X0.here hx rfl (hb hby d_prog_27_method_4_code_0) rfl rfl h) ?_
  show Go p e below _ s₁ (mkF m 1 #[.val (.ref c1), .val (.ref a1)] [(.ref a1)])
  refine Go.st (fun _ h => XS.aloadN X0.here hx rfl (hb hby d_prog_27_method_4_code_1) rfl rfl h) ?_
  show Go p e below _ s₁ (mkF m 2 #[.val (.ref c1), .val (.ref a1)] [(.ref c1), (.ref a1)])
  obtain ⟨T1, X1, e1, st1⟩ := getF X0 hx hZ hown (host := "") (Or.inl (hw _ (List.mem_of_getElem? (i := 19) rfl))) Via.refl e0 G1 (g := (mkF m 2 #[.val (.ref c1), .val (.ref a1)] [(.ref c1), (.ref a1)])) rfl rfl (hb hby d_prog_27_method_4_code_2)
  refine Go.st st1 ?_
  show Go p e below _ T1 (mkF m 5 #[.val (.ref c1), .val (.ref a1)] [(.ref s1), (.ref a1)])
  refine Go.st (fun _ h => XS.aloadN X1.here hx rfl (hb hby d_prog_27_method_4_code_5) rfl rfl h) ?_
  show Go p e below _ T1 (mkF m 6 #[.val (.ref c1), .val (.ref a1)] [(.ref c1), (.ref s1), (.ref a1)])
  obtain ⟨T2, X2, e2, st2⟩ := getF X1 hx hZ hown (host := "") (Or.inl (hw _ (List.mem_of_getElem? (i := 21) rfl))) Via.refl e1 G2 (g := (mkF m 6 #[.val (.ref c1), .val (.ref a1)] [(.ref c1), (.ref s1), (.ref a1)])) rfl rfl (hb hby d_prog_27_method_4_code_6)
  refine Go.st st2 ?_
  show Go p e below _ T2 (mkF m 9 #[.val (.ref c1), .val (.ref a1)] [(.ref s2), (.ref s1), (.ref a1)])
  obtain ⟨T3, X3, e3, st3⟩ := own_still rfl rfl (Does.virtual (y := (⟨"einwilligung/wordings/Language", "pick", "(Ljava/lang/String;Ljava/lang/String;)Ljava/lang/String;"⟩ : MethodName)) (g := (mkF m 9 #[.val (.ref c1), .val (.ref a1)] [(.ref s2), (.ref s1), (.ref a1)])) (a := a1) (rmPick0 l Z a0 hw a1 s1 s2 h0 E1 F1) X2 hx hZ hown e2 E1 (hw _ (List.mem_of_getElem? (i := 23) rfl)) (hw _ (List.mem_of_getElem? (i := 24) rfl)) (hw _ (List.mem_of_getElem? (i := 26) rfl)) (hw _ (List.mem_of_getElem? (i := 25) rfl)) (hw _ (List.mem_of_getElem? (i := 4) rfl)) (hw _ (List.mem_of_getElem? (i := 27) rfl)) (by decide) rfl (by rw [hml]; rfl) (argsL := [(.ref s1), (.ref s2)]) (rest := []) (lenOf pd_28Ljava2flang2fString3bLjava2flang2fString3b29Ljava2flang2fString3b rfl) rfl (hb hby d_prog_27_method_4_code_9) (W := 0) (by show 2 * 0 + _ ≤ _; exact Nat.le_of_eq rfl) (by decide) (by decide) (by decide) (by decide))
  refine Go.st st3 ?_
  show Go p e below _ T3 (mkF m 12 #[.val (.ref c1), .val (.ref a1)] [(.ref s1)])
  refine Go.retA X3 hx hlk hret rfl rfl rfl (hb hby d_prog_27_method_4_code_12) (by decide) (by decide) ?_
  exact ⟨rfl, rfl, e3⟩
theorem ef_rmPick1 (x0 : Addr) (x1 : Addr) (x2 : Addr) (m : MethodId) : entryFrame m #[(.ref x0), (.ref x1), (.ref x2)] 3 = mkF m 0 #[.val (.ref x0), .val (.ref x1), .val (.ref x2)] [] := by first | (simp [entryFrame, mkF, argsToLocals, Value.category]; done) | rfl
set_option maxRecDepth 65536 in
set_option maxHeartbeats 40000000 in
theorem rmPick1 (l : Launch) (Z : State) (a0 : Array Value) (hw : ∀ d ∈ tables_1, d.before a0 Z = true) (a1 s1 s2 : Addr) (h0 : Heap) (E1 : Exa Z h0 a1 "einwilligung/wordings/Language") (F1 : Fld Z h0 a1 "java/lang/Enum" "ordinal" "I" (.int (1 : Int32))) :
    Does l Z (⟨"einwilligung/wordings/Language", "pick", "(Ljava/lang/String;Ljava/lang/String;)Ljava/lang/String;"⟩ : MethodName) prog_51_method_5_code 3 (some (.object "java/lang/String")) [] ({ frames := 1, cells := 0, slots := 0, locals := 12 } : Room) #[(.ref a1), (.ref s1), (.ref s2)] h0 (Val (some (.ref s2)) h0) := by
  refine Does.intro pn_einwilligung_wordings_Language (ef_rmPick1 a1 s1 s2) ?_
  intro p e s m below meth c s₁ hx hby hml hown hnm hret hlk hZ e0 X0
  show Go p e below _ s₁ (mkF m 0 #[.val (.ref a1), .val (.ref s1), .val (.ref s2)] [])
  refine Go.st (fun _ h => XS.aloadN X0.here hx rfl (hb hby d_prog_51_method_5_code_0) rfl rfl h) ?_
  show Go p e below _ s₁ (mkF m 1 #[.val (.ref a1), .val (.ref s1), .val (.ref s2)] [(.ref a1)])
  obtain ⟨T1, X1, e1, st1⟩ := own_still rfl rfl (Does.virtualUp (x' := (⟨"einwilligung/wordings/Language", "ordinal", "()I"⟩ : MethodName)) (z := (⟨"java/lang/Enum", "ordinal", "()I"⟩ : MethodName)) (owner := "java/lang/Enum") (g := (mkF m 1 #[.val (.ref a1), .val (.ref s1), .val (.ref s2)] [(.ref a1)])) (a := a1) (rmOrd l Z a0 hw a1 (1 : Int32) h0 F1) X0 hx hZ hown e0 E1 (hw _ (List.mem_of_getElem? (i := 28) rfl)) (hw _ (List.mem_of_getElem? (i := 29) rfl)) (hw _ (List.mem_of_getElem? (i := 30) rfl)) (hw _ (List.mem_of_getElem? (i := 32) rfl)) (hw _ (List.mem_of_getElem? (i := 31) rfl)) (hw _ (List.mem_of_getElem? (i := 33) rfl)) (hw _ (List.mem_of_getElem? (i := 34) rfl)) (by decide) rfl (by rw [hml]; rfl) (argsL := []) (rest := []) (lenOf pd_2829I rfl) rfl (hb hby d_prog_51_method_5_code_1) (W := 0) (by show 2 * 0 + _ ≤ _; exact Nat.le_of_eq rfl) (by decide) (by decide) (by decide) (by decide))
  refine Go.st st1 ?_
  show Go p e below _ T1 (mkF m 4 #[.val (.ref a1), .val (.ref s1), .val (.ref s2)] [(.int (1 : Int32))])
  refine Go.st (own_lswHit X1 hx (g := (mkF m 4 #[.val (.ref a1), .val (.ref s1), .val (.ref s2)] [(.int (1 : Int32))])) rfl rfl (hb hby d_prog_51_method_5_code_4) (by decide) (a := 1) (off := 42) (by decide +kernel) (pc0 := 4) (pc' := 46) rfl (by decide) (by decide)) ?_
  show Go p e below _ T1 (mkF m 46 #[.val (.ref a1), .val (.ref s1), .val (.ref s2)] [])
  refine Go.st (fun _ h => XS.aloadN X1.here hx rfl (hb hby d_prog_51_method_5_code_46) rfl rfl h) ?_
  show Go p e below _ T1 (mkF m 47 #[.val (.ref a1), .val (.ref s1), .val (.ref s2)] [(.ref s2)])
  refine Go.retA X1 hx hlk hret rfl rfl rfl (hb hby d_prog_51_method_5_code_47) (by decide) (by decide) ?_
  exact ⟨rfl, rfl, e1⟩
theorem ef_rmLabel1 (x0 : Addr) (x1 : Addr) (m : MethodId) : entryFrame m #[(.ref x0), (.ref x1)] 2 = mkF m 0 #[.val (.ref x0), .val (.ref x1)] [] := by first | (simp [entryFrame, mkF, argsToLocals, Value.category]; done) | rfl
set_option maxRecDepth 65536 in
set_option maxHeartbeats 40000000 in
theorem rmLabel1 (l : Launch) (Z : State) (a0 : Array Value) (hw : ∀ d ∈ tables_1, d.before a0 Z = true) (c1 a1 s1 s2 : Addr) (h0 : Heap) (E1 : Exa Z h0 a1 "einwilligung/wordings/Language") (F1 : Fld Z h0 a1 "java/lang/Enum" "ordinal" "I" (.int (1 : Int32))) (G1 : Fld Z h0 c1 "einwilligung/ledger/Channel" "german" "Ljava/lang/String;" (.ref s1)) (G2 : Fld Z h0 c1 "einwilligung/ledger/Channel" "english" "Ljava/lang/String;" (.ref s2)) :
    Does l Z (⟨"einwilligung/ledger/Channel", "label", "(Leinwilligung/wordings/Language;)Ljava/lang/String;"⟩ : MethodName) prog_27_method_4_code 2 (some (.object "java/lang/String")) [] ({ frames := 2, cells := 0, slots := 0, locals := 26 } : Room) #[(.ref c1), (.ref a1)] h0 (Val (some (.ref s2)) h0) := by
  refine Does.intro pn_einwilligung_ledger_Channel (ef_rmLabel1 c1 a1) ?_
  intro p e s m below meth c s₁ hx hby hml hown hnm hret hlk hZ e0 X0
  show Go p e below _ s₁ (mkF m 0 #[.val (.ref c1), .val (.ref a1)] [])
  refine Go.st (fun _ h => XS.aloadN X0.here hx rfl (hb hby d_prog_27_method_4_code_0) rfl rfl h) ?_
  show Go p e below _ s₁ (mkF m 1 #[.val (.ref c1), .val (.ref a1)] [(.ref a1)])
  refine Go.st (fun _ h => XS.aloadN X0.here hx rfl (hb hby d_prog_27_method_4_code_1) rfl rfl h) ?_
  show Go p e below _ s₁ (mkF m 2 #[.val (.ref c1), .val (.ref a1)] [(.ref c1), (.ref a1)])
  obtain ⟨T1, X1, e1, st1⟩ := getF X0 hx hZ hown (host := "") (Or.inl (hw _ (List.mem_of_getElem? (i := 19) rfl))) Via.refl e0 G1 (g := (mkF m 2 #[.val (.ref c1), .val (.ref a1)] [(.ref c1), (.ref a1)])) rfl rfl (hb hby d_prog_27_method_4_code_2)
  refine Go.st st1 ?_
  show Go p e below _ T1 (mkF m 5 #[.val (.ref c1), .val (.ref a1)] [(.ref s1), (.ref a1)])
  refine Go.st (fun _ h => XS.aloadN X1.here hx rfl (hb hby d_prog_27_method_4_code_5) rfl rfl h) ?_
  show Go p e below _ T1 (mkF m 6 #[.val (.ref c1), .val (.ref a1)] [(.ref c1), (.ref s1), (.ref a1)])
  obtain ⟨T2, X2, e2, st2⟩ := getF X1 hx hZ hown (host := "") (Or.inl (hw _ (List.mem_of_getElem? (i := 21) rfl))) Via.refl e1 G2 (g := (mkF m 6 #[.val (.ref c1), .val (.ref a1)] [(.ref c1), (.ref s1), (.ref a1)])) rfl rfl (hb hby d_prog_27_method_4_code_6)
  refine Go.st st2 ?_
  show Go p e below _ T2 (mkF m 9 #[.val (.ref c1), .val (.ref a1)] [(.ref s2), (.ref s1), (.ref a1)])
  obtain ⟨T3, X3, e3, st3⟩ := own_still rfl rfl (Does.virtual (y := (⟨"einwilligung/wordings/Language", "pick", "(Ljava/lang/String;Ljava/lang/String;)Ljava/lang/String;"⟩ : MethodName)) (g := (mkF m 9 #[.val (.ref c1), .val (.ref a1)] [(.ref s2), (.ref s1), (.ref a1)])) (a := a1) (rmPick1 l Z a0 hw a1 s1 s2 h0 E1 F1) X2 hx hZ hown e2 E1 (hw _ (List.mem_of_getElem? (i := 23) rfl)) (hw _ (List.mem_of_getElem? (i := 24) rfl)) (hw _ (List.mem_of_getElem? (i := 26) rfl)) (hw _ (List.mem_of_getElem? (i := 25) rfl)) (hw _ (List.mem_of_getElem? (i := 4) rfl)) (hw _ (List.mem_of_getElem? (i := 27) rfl)) (by decide) rfl (by rw [hml]; rfl) (argsL := [(.ref s1), (.ref s2)]) (rest := []) (lenOf pd_28Ljava2flang2fString3bLjava2flang2fString3b29Ljava2flang2fString3b rfl) rfl (hb hby d_prog_27_method_4_code_9) (W := 0) (by show 2 * 0 + _ ≤ _; exact Nat.le_of_eq rfl) (by decide) (by decide) (by decide) (by decide))
  refine Go.st st3 ?_
  show Go p e below _ T3 (mkF m 12 #[.val (.ref c1), .val (.ref a1)] [(.ref s2)])
  refine Go.retA X3 hx hlk hret rfl rfl rfl (hb hby d_prog_27_method_4_code_12) (by decide) (by decide) ?_
  exact ⟨rfl, rfl, e3⟩
theorem ef_rmLaw (x0 : Int32) (x1 : Int32) (m : MethodId) : entryFrame m #[(.int x0), (.int x1)] maxLocals = mkF m 0 #[.val (.int x0), .val (.int x1), .unset, .unset, .unset, .unset, .unset, .unset] [] := by first | (simp [entryFrame, mkF, argsToLocals, Value.category, maxLocals]; done) | rfl
set_option maxRecDepth 65536 in
set_option maxHeartbeats 40000000 in
theorem rmLaw (l : Launch) (Z : State) (a0 : Array Value) (hw : ∀ d ∈ tables_1, d.before a0 Z = true) (p1 p2 : Int32) (c_EMAIL : Addr) (S_EMAIL : Sta Z Z.heap "einwilligung/ledger/Channel" "EMAIL" "Leinwilligung/ledger/Channel;" (.ref c_EMAIL)) (E_c_EMAIL : Exa Z Z.heap c_EMAIL "einwilligung/ledger/Channel") (g_EMAIL t_g_EMAIL : Addr) (k_g_EMAIL : ClassId) (E_g_EMAIL : Exa Z Z.heap g_EMAIL "java/lang/String") (C_g_EMAIL : Fld Z Z.heap g_EMAIL "java/lang/String" "coder" "B" (.int (0 : Int32))) (V_g_EMAIL : Fld Z Z.heap g_EMAIL "java/lang/String" "value" "[B" (.ref t_g_EMAIL)) (B_g_EMAIL : Arv Z Z.heap t_g_EMAIL k_g_EMAIL .byte (6 : Int32) [(.int (69 : Int32)), (.int (45 : Int32)), (.int (77 : Int32)), (.int (97 : Int32)), (.int (105 : Int32)), (.int (108 : Int32))] (.int (0 : Int32))) (G_EMAIL_german : Fld Z Z.heap c_EMAIL "einwilligung/ledger/Channel" "german" "Ljava/lang/String;" (.ref g_EMAIL)) (e_EMAIL t_e_EMAIL : Addr) (k_e_EMAIL : ClassId) (E_e_EMAIL : Exa Z Z.heap e_EMAIL "java/lang/String") (C_e_EMAIL : Fld Z Z.heap e_EMAIL "java/lang/String" "coder" "B" (.int (0 : Int32))) (V_e_EMAIL : Fld Z Z.heap e_EMAIL "java/lang/String" "value" "[B" (.ref t_e_EMAIL)) (B_e_EMAIL : Arv Z Z.heap t_e_EMAIL k_e_EMAIL .byte (6 : Int32) [(.int (101 : Int32)), (.int (45 : Int32)), (.int (109 : Int32)), (.int (97 : Int32)), (.int (105 : Int32)), (.int (108 : Int32))] (.int (0 : Int32))) (G_EMAIL_english : Fld Z Z.heap c_EMAIL "einwilligung/ledger/Channel" "english" "Ljava/lang/String;" (.ref e_EMAIL)) (c_SMS : Addr) (S_SMS : Sta Z Z.heap "einwilligung/ledger/Channel" "SMS" "Leinwilligung/ledger/Channel;" (.ref c_SMS)) (E_c_SMS : Exa Z Z.heap c_SMS "einwilligung/ledger/Channel") (g_SMS t_g_SMS : Addr) (k_g_SMS : ClassId) (E_g_SMS : Exa Z Z.heap g_SMS "java/lang/String") (C_g_SMS : Fld Z Z.heap g_SMS "java/lang/String" "coder" "B" (.int (0 : Int32))) (V_g_SMS : Fld Z Z.heap g_SMS "java/lang/String" "value" "[B" (.ref t_g_SMS)) (B_g_SMS : Arv Z Z.heap t_g_SMS k_g_SMS .byte (3 : Int32) [(.int (83 : Int32)), (.int (77 : Int32)), (.int (83 : Int32))] (.int (0 : Int32))) (G_SMS_german : Fld Z Z.heap c_SMS "einwilligung/ledger/Channel" "german" "Ljava/lang/String;" (.ref g_SMS)) (G_SMS_english : Fld Z Z.heap c_SMS "einwilligung/ledger/Channel" "english" "Ljava/lang/String;" (.ref g_SMS)) (l_DE : Addr) (S_DE : Sta Z Z.heap "einwilligung/wordings/Language" "DE" "Leinwilligung/wordings/Language;" (.ref l_DE)) (E_l_DE : Exa Z Z.heap l_DE "einwilligung/wordings/Language") (F_l_DE : Fld Z Z.heap l_DE "java/lang/Enum" "ordinal" "I" (.int (0 : Int32))) (l_EN : Addr) (S_EN : Sta Z Z.heap "einwilligung/wordings/Language" "EN" "Leinwilligung/wordings/Language;" (.ref l_EN)) (E_l_EN : Exa Z Z.heap l_EN "einwilligung/wordings/Language") (F_l_EN : Fld Z Z.heap l_EN "java/lang/Enum" "ordinal" "I" (.int (1 : Int32))) (zc : Int32) (S_CS : Sta Z Z.heap "java/lang/String" "COMPACT_STRINGS" "Z" (.int zc)) (hzc : ¬ zc = (0 : Int32)) (hcw : Jvm.Lit.compactW.before a0 Z = true) (hheld : ∀ q ∈ consts_1, Jvm.Lit.constHeld Z q.1 q.2) :
    DoesW l Z x code maxLocals ret tables_1 room_1 #[(.int p1), (.int p2)] (fun v h L => v = some (.int 1) ∧ Fr Z.heap.size L) := by
  refine DoesW.intro pn_einwilligung_ledger_ChannelLabelPinLaw (ef_rmLaw p1 p2) ?_
  intro p e m below meth c s₁ hx hby hml hown hnm hret hlk e0 X0
  have hZ := State.Warmed39.refl Z
  have hS : Z.Since Z.vm 0 := (State.WarmedH.refl Z).since 0
  have hkS : 0 ≤ Z.heap.size := Nat.zero_le _
  show Go p e below _ s₁ (mkF m 0 #[.val (.int p1), .val (.int p2), .unset, .unset, .unset, .unset, .unset, .unset] [])
  have wS : ∀ a ∈ Bundle.stringAtoms, a.before a0 Z = true := fun d hd => hw d ((by decide +kernel : ∀ d ∈ Bundle.stringAtoms, d ∈ tables_1) d hd)
  refine Go.st (fun _ h => XS.iloadN X0.here hx rfl (hb hby at_0) rfl h) ?_
  show Go p e below _ s₁ (mkF m 1 #[.val (.int p1), .val (.int p2), .unset, .unset, .unset, .unset, .unset, .unset] [(.int p1)])
  refine Go.st (fun _ h => XT.iconstV X0.here hx rfl (1 : Int32) (hb hby at_1) (by decide) h) ?_
  show Go p e below _ s₁ (mkF m 2 #[.val (.int p1), .val (.int p2), .unset, .unset, .unset, .unset, .unset, .unset] [(.int (1 : Int32)), (.int p1)])
  refine Go.st (fun _ h => XS.iand X0.here hx rfl (hb hby at_2) rfl h) ?_
  show Go p e below _ s₁ (mkF m 3 #[.val (.int p1), .val (.int p2), .unset, .unset, .unset, .unset, .unset, .unset] [(.int (p1 &&& (1 : Int32)))])
  by_cases hc1 : (p1 &&& (1 : Int32)) = (0 : Int32)
  · refine Go.st (fun _ h => XS.ifYes X0.here hx rfl (pc0 := 3) (pc' := 10) rfl (hb hby at_3) rfl ((if0 _ _).trans (teq hc1).1) (by decide) (by decide) h) ?_
    show Go p e below _ s₁ (mkF m 10 #[.val (.int p1), .val (.int p2), .unset, .unset, .unset, .unset, .unset, .unset] [])
    refine Go.st (fun _ h => XT.iconstV X0.here hx rfl (0 : Int32) (hb hby at_10) (by decide) h) ?_
    show Go p e below _ s₁ (mkF m 11 #[.val (.int p1), .val (.int p2), .unset, .unset, .unset, .unset, .unset, .unset] [(.int (0 : Int32))])
    refine Go.st (fun _ h => XS.istoreN X0.here hx rfl (hb hby at_11) rfl (l' := #[.val (.int p1), .val (.int p2), .val (.int (0 : Int32)), .unset, .unset, .unset, .unset, .unset]) rfl h) ?_
    show Go p e below _ s₁ (mkF m 12 #[.val (.int p1), .val (.int p2), .val (.int (0 : Int32)), .unset, .unset, .unset, .unset, .unset] [])
    refine Go.st (fun _ h => XS.iloadN X0.here hx rfl (hb hby at_12) rfl h) ?_
    show Go p e below _ s₁ (mkF m 13 #[.val (.int p1), .val (.int p2), .val (.int (0 : Int32)), .unset, .unset, .unset, .unset, .unset] [(.int p2)])
    refine Go.st (fun _ h => XT.iconstV X0.here hx rfl (1 : Int32) (hb hby at_13) (by decide) h) ?_
    show Go p e below _ s₁ (mkF m 14 #[.val (.int p1), .val (.int p2), .val (.int (0 : Int32)), .unset, .unset, .unset, .unset, .unset] [(.int (1 : Int32)), (.int p2)])
    refine Go.st (fun _ h => XS.iand X0.here hx rfl (hb hby at_14) rfl h) ?_
    show Go p e below _ s₁ (mkF m 15 #[.val (.int p1), .val (.int p2), .val (.int (0 : Int32)), .unset, .unset, .unset, .unset, .unset] [(.int (p2 &&& (1 : Int32)))])
    by_cases hc2 : (p2 &&& (1 : Int32)) = (0 : Int32)
    · refine Go.st (fun _ h => XS.ifYes X0.here hx rfl (pc0 := 15) (pc' := 22) rfl (hb hby at_15) rfl ((if0 _ _).trans (teq hc2).1) (by decide) (by decide) h) ?_
      show Go p e below _ s₁ (mkF m 22 #[.val (.int p1), .val (.int p2), .val (.int (0 : Int32)), .unset, .unset, .unset, .unset, .unset] [])
      refine Go.st (fun _ h => XT.iconstV X0.here hx rfl (0 : Int32) (hb hby at_22) (by decide) h) ?_
      show Go p e below _ s₁ (mkF m 23 #[.val (.int p1), .val (.int p2), .val (.int (0 : Int32)), .unset, .unset, .unset, .unset, .unset] [(.int (0 : Int32))])
      refine Go.st (fun _ h => XS.istoreN X0.here hx rfl (hb hby at_23) rfl (l' := #[.val (.int p1), .val (.int p2), .val (.int (0 : Int32)), .val (.int (0 : Int32)), .unset, .unset, .unset, .unset]) rfl h) ?_
      show Go p e below _ s₁ (mkF m 24 #[.val (.int p1), .val (.int p2), .val (.int (0 : Int32)), .val (.int (0 : Int32)), .unset, .unset, .unset, .unset] [])
      refine Go.st (fun _ h => XS.iloadN X0.here hx rfl (hb hby at_24) rfl h) ?_
      show Go p e below _ s₁ (mkF m 25 #[.val (.int p1), .val (.int p2), .val (.int (0 : Int32)), .val (.int (0 : Int32)), .unset, .unset, .unset, .unset] [(.int (0 : Int32))])
      refine Go.st (fun _ h => XS.ifYes X0.here hx rfl (pc0 := 25) (pc' := 34) rfl (hb hby at_25) rfl (by decide) (by decide) (by decide) h) ?_
      show Go p e below _ s₁ (mkF m 34 #[.val (.int p1), .val (.int p2), .val (.int (0 : Int32)), .val (.int (0 : Int32)), .unset, .unset, .unset, .unset] [])
      obtain ⟨T3, X3, e3, st3⟩ := getS2 X0 hx hZ hown (host := "") (Or.inl (hw _ (List.mem_of_getElem? (i := 0) rfl))) Via.refl e0 S_EMAIL (g := (mkF m 34 #[.val (.int p1), .val (.int p2), .val (.int (0 : Int32)), .val (.int (0 : Int32)), .unset, .unset, .unset, .unset] [])) rfl (hb hby at_34)
      refine Go.st st3 ?_
      show Go p e below _ T3 (mkF m 37 #[.val (.int p1), .val (.int p2), .val (.int (0 : Int32)), .val (.int (0 : Int32)), .unset, .unset, .unset, .unset] [(.ref c_EMAIL)])
      refine Go.st (fun _ h => XS.astore X3.here hx rfl (hb hby at_37) rfl rfl (l' := #[.val (.int p1), .val (.int p2), .val (.int (0 : Int32)), .val (.int (0 : Int32)), .val (.ref c_EMAIL), .unset, .unset, .unset]) rfl h) ?_
      show Go p e below _ T3 (mkF m 39 #[.val (.int p1), .val (.int p2), .val (.int (0 : Int32)), .val (.int (0 : Int32)), .val (.ref c_EMAIL), .unset, .unset, .unset] [])
      refine Go.st (fun _ h => XS.iloadN X3.here hx rfl (hb hby at_39) rfl h) ?_
      show Go p e below _ T3 (mkF m 40 #[.val (.int p1), .val (.int p2), .val (.int (0 : Int32)), .val (.int (0 : Int32)), .val (.ref c_EMAIL), .unset, .unset, .unset] [(.int (0 : Int32))])
      refine Go.st (fun _ h => XS.ifYes X3.here hx rfl (pc0 := 40) (pc' := 49) rfl (hb hby at_40) rfl (by decide) (by decide) (by decide) h) ?_
      show Go p e below _ T3 (mkF m 49 #[.val (.int p1), .val (.int p2), .val (.int (0 : Int32)), .val (.int (0 : Int32)), .val (.ref c_EMAIL), .unset, .unset, .unset] [])
      obtain ⟨T4, X4, e4, st4⟩ := getS2 X3 hx hZ hown (host := "") (Or.inl (hw _ (List.mem_of_getElem? (i := 51) rfl))) Via.refl e3 S_DE (g := (mkF m 49 #[.val (.int p1), .val (.int p2), .val (.int (0 : Int32)), .val (.int (0 : Int32)), .val (.ref c_EMAIL), .unset, .unset, .unset] [])) rfl (hb hby at_49)
      refine Go.st st4 ?_
      show Go p e below _ T4 (mkF m 52 #[.val (.int p1), .val (.int p2), .val (.int (0 : Int32)), .val (.int (0 : Int32)), .val (.ref c_EMAIL), .unset, .unset, .unset] [(.ref l_DE)])
      refine Go.st (fun _ h => XS.astore X4.here hx rfl (hb hby at_52) rfl rfl (l' := #[.val (.int p1), .val (.int p2), .val (.int (0 : Int32)), .val (.int (0 : Int32)), .val (.ref c_EMAIL), .val (.ref l_DE), .unset, .unset]) rfl h) ?_
      show Go p e below _ T4 (mkF m 54 #[.val (.int p1), .val (.int p2), .val (.int (0 : Int32)), .val (.int (0 : Int32)), .val (.ref c_EMAIL), .val (.ref l_DE), .unset, .unset] [])
      refine Go.st (fun _ h => XS.iloadN X4.here hx rfl (hb hby at_54) rfl h) ?_
      show Go p e below _ T4 (mkF m 55 #[.val (.int p1), .val (.int p2), .val (.int (0 : Int32)), .val (.int (0 : Int32)), .val (.ref c_EMAIL), .val (.ref l_DE), .unset, .unset] [(.int (0 : Int32))])
      refine Go.st (fun _ h => XS.ifYes X4.here hx rfl (pc0 := 55) (pc' := 65) rfl (hb hby at_55) rfl (by decide) (by decide) (by decide) h) ?_
      show Go p e below _ T4 (mkF m 65 #[.val (.int p1), .val (.int p2), .val (.int (0 : Int32)), .val (.int (0 : Int32)), .val (.ref c_EMAIL), .val (.ref l_DE), .unset, .unset] [])
      refine Go.st (fun _ h => XS.iloadN X4.here hx rfl (hb hby at_65) rfl h) ?_
      show Go p e below _ T4 (mkF m 66 #[.val (.int p1), .val (.int p2), .val (.int (0 : Int32)), .val (.int (0 : Int32)), .val (.ref c_EMAIL), .val (.ref l_DE), .unset, .unset] [(.int (0 : Int32))])
      refine Go.st (fun _ h => XS.ifYes X4.here hx rfl (pc0 := 66) (pc' := 76) rfl (hb hby at_66) rfl (by decide) (by decide) (by decide) h) ?_
      show Go p e below _ T4 (mkF m 76 #[.val (.int p1), .val (.int p2), .val (.int (0 : Int32)), .val (.int (0 : Int32)), .val (.ref c_EMAIL), .val (.ref l_DE), .unset, .unset] [])
      obtain ⟨b5, T5, h5, k5, t5, q5, X5, e5, E5, hS, hkS, hZ, hown, A5, C5, V5, B5, lt5, lu5, -, st5⟩ := ldcSV (s := Z) (vm0 := Z.vm) X4 hx hZ hown (hw _ (List.mem_of_getElem? (i := 53) rfl)) wS e4 hS hkS (Fr.nil _) (fun _ _ q => q) IB.start (by decide) (hheld _ (List.mem_of_getElem? (i := 2) rfl)) hcw (vs := [(.int (69 : Int32)), (.int (45 : Int32)), (.int (77 : Int32)), (.int (97 : Int32)), (.int (105 : Int32)), (.int (108 : Int32))]) (z := (6 : Int32)) ⟨by decide, by decide⟩ (by decide) (by decide) (g := (mkF m 76 #[.val (.int p1), .val (.int p2), .val (.int (0 : Int32)), .val (.int (0 : Int32)), .val (.ref c_EMAIL), .val (.ref l_DE), .unset, .unset] [])) rfl (hb hby at_76) (n := 24) (by decide) (by decide) (by decide) (by decide)
      have K5 := (Keep.refl _ []).ext E5
      refine Go.st st5 ?_
      show Go p e below _ T5 (mkF m 78 #[.val (.int p1), .val (.int p2), .val (.int (0 : Int32)), .val (.int (0 : Int32)), .val (.ref c_EMAIL), .val (.ref l_DE), .unset, .unset] [(.ref b5)])
      refine Go.st (fun _ h => XS.astore X5.here hx rfl (hb hby at_78) rfl rfl (l' := #[.val (.int p1), .val (.int p2), .val (.int (0 : Int32)), .val (.int (0 : Int32)), .val (.ref c_EMAIL), .val (.ref l_DE), .val (.ref b5), .unset]) rfl h) ?_
      show Go p e below _ T5 (mkF m 80 #[.val (.int p1), .val (.int p2), .val (.int (0 : Int32)), .val (.int (0 : Int32)), .val (.ref c_EMAIL), .val (.ref l_DE), .val (.ref b5), .unset] [])
      refine Go.st (fun _ h => XS.aload X5.here hx rfl (hb hby at_80) rfl rfl h) ?_
      show Go p e below _ T5 (mkF m 82 #[.val (.int p1), .val (.int p2), .val (.int (0 : Int32)), .val (.int (0 : Int32)), .val (.ref c_EMAIL), .val (.ref l_DE), .val (.ref b5), .unset] [(.ref c_EMAIL)])
      refine Go.st (fun _ h => XS.aload X5.here hx rfl (hb hby at_82) rfl rfl h) ?_
      show Go p e below _ T5 (mkF m 84 #[.val (.int p1), .val (.int p2), .val (.int (0 : Int32)), .val (.int (0 : Int32)), .val (.ref c_EMAIL), .val (.ref l_DE), .val (.ref b5), .unset] [(.ref l_DE), (.ref c_EMAIL)])
      obtain ⟨T6, X6, e6, st6⟩ := own_still rfl rfl (Does.virtual (y := (⟨"einwilligung/ledger/Channel", "label", "(Leinwilligung/wordings/Language;)Ljava/lang/String;"⟩ : MethodName)) (g := (mkF m 84 #[.val (.int p1), .val (.int p2), .val (.int (0 : Int32)), .val (.int (0 : Int32)), .val (.ref c_EMAIL), .val (.ref l_DE), .val (.ref b5), .unset] [(.ref l_DE), (.ref c_EMAIL)])) (a := c_EMAIL) (rmLabel0 l Z a0 hw c_EMAIL l_DE g_EMAIL e_EMAIL h5 (E_l_DE.keep K5) (F_l_DE.keep K5 nin0) (G_EMAIL_german.keep K5 nin0) (G_EMAIL_english.keep K5 nin0)) X5 hx hZ hown e5 (E_c_EMAIL.keep K5) (hw _ (List.mem_of_getElem? (i := 14) rfl)) (hw _ (List.mem_of_getElem? (i := 15) rfl)) (hw _ (List.mem_of_getElem? (i := 17) rfl)) (hw _ (List.mem_of_getElem? (i := 16) rfl)) (hw _ (List.mem_of_getElem? (i := 1) rfl)) (hw _ (List.mem_of_getElem? (i := 18) rfl)) (by decide) rfl (by rw [hml]; rfl) (argsL := [(.ref l_DE)]) (rest := []) (lenOf pd_28Leinwilligung2fwordings2fLanguage3b29Ljava2flang2fString3b rfl) rfl (hb hby at_84) (W := 0) (by show 2 * 0 + _ ≤ _; exact Nat.le_of_eq rfl) (by decide) (by decide) (by decide) (by decide))
      refine Go.st st6 ?_
      show Go p e below _ T6 (mkF m 87 #[.val (.int p1), .val (.int p2), .val (.int (0 : Int32)), .val (.int (0 : Int32)), .val (.ref c_EMAIL), .val (.ref l_DE), .val (.ref b5), .unset] [(.ref g_EMAIL)])
      refine Go.st (fun _ h => XS.astore X6.here hx rfl (hb hby at_87) rfl rfl (l' := #[.val (.int p1), .val (.int p2), .val (.int (0 : Int32)), .val (.int (0 : Int32)), .val (.ref c_EMAIL), .val (.ref l_DE), .val (.ref b5), .val (.ref g_EMAIL)]) rfl h) ?_
      show Go p e below _ T6 (mkF m 89 #[.val (.int p1), .val (.int p2), .val (.int (0 : Int32)), .val (.int (0 : Int32)), .val (.ref c_EMAIL), .val (.ref l_DE), .val (.ref b5), .val (.ref g_EMAIL)] [])
      refine Go.st (fun _ h => XS.aload X6.here hx rfl (hb hby at_89) rfl rfl h) ?_
      show Go p e below _ T6 (mkF m 91 #[.val (.int p1), .val (.int p2), .val (.int (0 : Int32)), .val (.int (0 : Int32)), .val (.ref c_EMAIL), .val (.ref l_DE), .val (.ref b5), .val (.ref g_EMAIL)] [(.ref g_EMAIL)])
      refine Go.st (fun _ h => XS.ifnullNo X6.here hx rfl (hb hby at_91) rfl h) ?_
      show Go p e below _ T6 (mkF m 94 #[.val (.int p1), .val (.int p2), .val (.int (0 : Int32)), .val (.int (0 : Int32)), .val (.ref c_EMAIL), .val (.ref l_DE), .val (.ref b5), .val (.ref g_EMAIL)] [])
      refine Go.st (fun _ h => XS.aload X6.here hx rfl (hb hby at_94) rfl rfl h) ?_
      show Go p e below _ T6 (mkF m 96 #[.val (.int p1), .val (.int p2), .val (.int (0 : Int32)), .val (.int (0 : Int32)), .val (.ref c_EMAIL), .val (.ref l_DE), .val (.ref b5), .val (.ref g_EMAIL)] [(.ref g_EMAIL)])
      refine Go.st (fun _ h => XS.aload X6.here hx rfl (hb hby at_96) rfl rfl h) ?_
      show Go p e below _ T6 (mkF m 98 #[.val (.int p1), .val (.int p2), .val (.int (0 : Int32)), .val (.int (0 : Int32)), .val (.ref c_EMAIL), .val (.ref l_DE), .val (.ref b5), .val (.ref g_EMAIL)] [(.ref b5), (.ref g_EMAIL)])
      obtain ⟨T7, X7, e7, st7⟩ := own_still rfl rfl (Does.virtual (y := (⟨"java/lang/String", "equals", "(Ljava/lang/Object;)Z"⟩ : MethodName)) (g := (mkF m 98 #[.val (.int p1), .val (.int p2), .val (.int (0 : Int32)), .val (.int (0 : Int32)), .val (.ref c_EMAIL), .val (.ref l_DE), .val (.ref b5), .val (.ref g_EMAIL)] [(.ref b5), (.ref g_EMAIL)])) (a := g_EMAIL) (rmEq_EMail l Z a0 hw g_EMAIL b5 t_g_EMAIL t5 k_g_EMAIL q5 zc h5 (E_g_EMAIL.keep K5) (C_g_EMAIL.keep K5 nin0) (V_g_EMAIL.keep K5 nin0) A5 C5 V5 (B_g_EMAIL.keep K5 nin0) B5 (S_CS.ext (own_ext K5)) hzc) X6 hx hZ hown e6 (E_g_EMAIL.keep K5) (hw _ (List.mem_of_getElem? (i := 37) rfl)) (hw _ (List.mem_of_getElem? (i := 38) rfl)) (hw _ (List.mem_of_getElem? (i := 40) rfl)) (hw _ (List.mem_of_getElem? (i := 39) rfl)) (hw _ (List.mem_of_getElem? (i := 7) rfl)) (hw _ (List.mem_of_getElem? (i := 41) rfl)) (by decide) rfl (by rw [hml]; rfl) (argsL := [(.ref b5)]) (rest := []) (lenOf pd_28Ljava2flang2fObject3b29Z rfl) rfl (hb hby at_98) (W := 0) (by show 2 * 0 + _ ≤ _; exact Nat.le_of_eq rfl) (by decide) (by decide) (by decide) (by decide))
      refine Go.st st7 ?_
      show Go p e below _ T7 (mkF m 101 #[.val (.int p1), .val (.int p2), .val (.int (0 : Int32)), .val (.int (0 : Int32)), .val (.ref c_EMAIL), .val (.ref l_DE), .val (.ref b5), .val (.ref g_EMAIL)] [(.int (1 : Int32))])
      refine Go.st (fun _ h => XS.ifNo X7.here hx rfl (hb hby at_101) rfl (by decide) h) ?_
      show Go p e below _ T7 (mkF m 104 #[.val (.int p1), .val (.int p2), .val (.int (0 : Int32)), .val (.int (0 : Int32)), .val (.ref c_EMAIL), .val (.ref l_DE), .val (.ref b5), .val (.ref g_EMAIL)] [])
      refine Go.st (fun _ h => XT.iconstV X7.here hx rfl (1 : Int32) (hb hby at_104) (by decide) h) ?_
      show Go p e below _ T7 (mkF m 105 #[.val (.int p1), .val (.int p2), .val (.int (0 : Int32)), .val (.int (0 : Int32)), .val (.ref c_EMAIL), .val (.ref l_DE), .val (.ref b5), .val (.ref g_EMAIL)] [(.int (1 : Int32))])
      refine Go.st (fun _ h => XS.goto X7.here hx rfl (pc0 := 105) (pc' := 109) rfl (hb hby at_105) (by decide) (by decide) h) ?_
      show Go p e below _ T7 (mkF m 109 #[.val (.int p1), .val (.int p2), .val (.int (0 : Int32)), .val (.int (0 : Int32)), .val (.ref c_EMAIL), .val (.ref l_DE), .val (.ref b5), .val (.ref g_EMAIL)] [(.int (1 : Int32))])
      refine Go.retZW X7 hx hlk hret rfl (hb hby at_109) hS (by rw [e7]; exact hkS) (by decide) (by decide) ?_
      exact ⟨rfl, Fr.nil _⟩
    · refine Go.st (fun _ h => XS.ifNo X0.here hx rfl (hb hby at_15) rfl ((if0 _ _).trans (feq hc2).1) h) ?_
      show Go p e below _ s₁ (mkF m 18 #[.val (.int p1), .val (.int p2), .val (.int (0 : Int32)), .unset, .unset, .unset, .unset, .unset] [])
      refine Go.st (fun _ h => XT.iconstV X0.here hx rfl (1 : Int32) (hb hby at_18) (by decide) h) ?_
      show Go p e below _ s₁ (mkF m 19 #[.val (.int p1), .val (.int p2), .val (.int (0 : Int32)), .unset, .unset, .unset, .unset, .unset] [(.int (1 : Int32))])
      refine Go.st (fun _ h => XS.goto X0.here hx rfl (pc0 := 19) (pc' := 23) rfl (hb hby at_19) (by decide) (by decide) h) ?_
      show Go p e below _ s₁ (mkF m 23 #[.val (.int p1), .val (.int p2), .val (.int (0 : Int32)), .unset, .unset, .unset, .unset, .unset] [(.int (1 : Int32))])
      refine Go.st (fun _ h => XS.istoreN X0.here hx rfl (hb hby at_23) rfl (l' := #[.val (.int p1), .val (.int p2), .val (.int (0 : Int32)), .val (.int (1 : Int32)), .unset, .unset, .unset, .unset]) rfl h) ?_
      show Go p e below _ s₁ (mkF m 24 #[.val (.int p1), .val (.int p2), .val (.int (0 : Int32)), .val (.int (1 : Int32)), .unset, .unset, .unset, .unset] [])
      refine Go.st (fun _ h => XS.iloadN X0.here hx rfl (hb hby at_24) rfl h) ?_
      show Go p e below _ s₁ (mkF m 25 #[.val (.int p1), .val (.int p2), .val (.int (0 : Int32)), .val (.int (1 : Int32)), .unset, .unset, .unset, .unset] [(.int (0 : Int32))])
      refine Go.st (fun _ h => XS.ifYes X0.here hx rfl (pc0 := 25) (pc' := 34) rfl (hb hby at_25) rfl (by decide) (by decide) (by decide) h) ?_
      show Go p e below _ s₁ (mkF m 34 #[.val (.int p1), .val (.int p2), .val (.int (0 : Int32)), .val (.int (1 : Int32)), .unset, .unset, .unset, .unset] [])
      obtain ⟨T8, X8, e8, st8⟩ := getS2 X0 hx hZ hown (host := "") (Or.inl (hw _ (List.mem_of_getElem? (i := 0) rfl))) Via.refl e0 S_EMAIL (g := (mkF m 34 #[.val (.int p1), .val (.int p2), .val (.int (0 : Int32)), .val (.int (1 : Int32)), .unset, .unset, .unset, .unset] [])) rfl (hb hby at_34)
      refine Go.st st8 ?_
      show Go p e below _ T8 (mkF m 37 #[.val (.int p1), .val (.int p2), .val (.int (0 : Int32)), .val (.int (1 : Int32)), .unset, .unset, .unset, .unset] [(.ref c_EMAIL)])
      refine Go.st (fun _ h => XS.astore X8.here hx rfl (hb hby at_37) rfl rfl (l' := #[.val (.int p1), .val (.int p2), .val (.int (0 : Int32)), .val (.int (1 : Int32)), .val (.ref c_EMAIL), .unset, .unset, .unset]) rfl h) ?_
      show Go p e below _ T8 (mkF m 39 #[.val (.int p1), .val (.int p2), .val (.int (0 : Int32)), .val (.int (1 : Int32)), .val (.ref c_EMAIL), .unset, .unset, .unset] [])
      refine Go.st (fun _ h => XS.iloadN X8.here hx rfl (hb hby at_39) rfl h) ?_
      show Go p e below _ T8 (mkF m 40 #[.val (.int p1), .val (.int p2), .val (.int (0 : Int32)), .val (.int (1 : Int32)), .val (.ref c_EMAIL), .unset, .unset, .unset] [(.int (1 : Int32))])
      refine Go.st (fun _ h => XS.ifNo X8.here hx rfl (hb hby at_40) rfl (by decide) h) ?_
      show Go p e below _ T8 (mkF m 43 #[.val (.int p1), .val (.int p2), .val (.int (0 : Int32)), .val (.int (1 : Int32)), .val (.ref c_EMAIL), .unset, .unset, .unset] [])
      obtain ⟨T9, X9, e9, st9⟩ := getS2 X8 hx hZ hown (host := "") (Or.inl (hw _ (List.mem_of_getElem? (i := 3) rfl))) Via.refl e8 S_EN (g := (mkF m 43 #[.val (.int p1), .val (.int p2), .val (.int (0 : Int32)), .val (.int (1 : Int32)), .val (.ref c_EMAIL), .unset, .unset, .unset] [])) rfl (hb hby at_43)
      refine Go.st st9 ?_
      show Go p e below _ T9 (mkF m 46 #[.val (.int p1), .val (.int p2), .val (.int (0 : Int32)), .val (.int (1 : Int32)), .val (.ref c_EMAIL), .unset, .unset, .unset] [(.ref l_EN)])
      refine Go.st (fun _ h => XS.goto X9.here hx rfl (pc0 := 46) (pc' := 52) rfl (hb hby at_46) (by decide) (by decide) h) ?_
      show Go p e below _ T9 (mkF m 52 #[.val (.int p1), .val (.int p2), .val (.int (0 : Int32)), .val (.int (1 : Int32)), .val (.ref c_EMAIL), .unset, .unset, .unset] [(.ref l_EN)])
      refine Go.st (fun _ h => XS.astore X9.here hx rfl (hb hby at_52) rfl rfl (l' := #[.val (.int p1), .val (.int p2), .val (.int (0 : Int32)), .val (.int (1 : Int32)), .val (.ref c_EMAIL), .val (.ref l_EN), .unset, .unset]) rfl h) ?_
      show Go p e below _ T9 (mkF m 54 #[.val (.int p1), .val (.int p2), .val (.int (0 : Int32)), .val (.int (1 : Int32)), .val (.ref c_EMAIL), .val (.ref l_EN), .unset, .unset] [])
      refine Go.st (fun _ h => XS.iloadN X9.here hx rfl (hb hby at_54) rfl h) ?_
      show Go p e below _ T9 (mkF m 55 #[.val (.int p1), .val (.int p2), .val (.int (0 : Int32)), .val (.int (1 : Int32)), .val (.ref c_EMAIL), .val (.ref l_EN), .unset, .unset] [(.int (0 : Int32))])
      refine Go.st (fun _ h => XS.ifYes X9.here hx rfl (pc0 := 55) (pc' := 65) rfl (hb hby at_55) rfl (by decide) (by decide) (by decide) h) ?_
      show Go p e below _ T9 (mkF m 65 #[.val (.int p1), .val (.int p2), .val (.int (0 : Int32)), .val (.int (1 : Int32)), .val (.ref c_EMAIL), .val (.ref l_EN), .unset, .unset] [])
      refine Go.st (fun _ h => XS.iloadN X9.here hx rfl (hb hby at_65) rfl h) ?_
      show Go p e below _ T9 (mkF m 66 #[.val (.int p1), .val (.int p2), .val (.int (0 : Int32)), .val (.int (1 : Int32)), .val (.ref c_EMAIL), .val (.ref l_EN), .unset, .unset] [(.int (1 : Int32))])
      refine Go.st (fun _ h => XS.ifNo X9.here hx rfl (hb hby at_66) rfl (by decide) h) ?_
      show Go p e below _ T9 (mkF m 69 #[.val (.int p1), .val (.int p2), .val (.int (0 : Int32)), .val (.int (1 : Int32)), .val (.ref c_EMAIL), .val (.ref l_EN), .unset, .unset] [])
      obtain ⟨b10, T10, h10, k10, t10, q10, X10, e10, E10, hS, hkS, hZ, hown, A10, C10, V10, B10, lt10, lu10, -, st10⟩ := ldcSV (s := Z) (vm0 := Z.vm) X9 hx hZ hown (hw _ (List.mem_of_getElem? (i := 6) rfl)) wS e9 hS hkS (Fr.nil _) (fun _ _ q => q) IB.start (by decide) (hheld _ (List.mem_of_getElem? (i := 1) rfl)) hcw (vs := [(.int (101 : Int32)), (.int (45 : Int32)), (.int (109 : Int32)), (.int (97 : Int32)), (.int (105 : Int32)), (.int (108 : Int32))]) (z := (6 : Int32)) ⟨by decide, by decide⟩ (by decide) (by decide) (g := (mkF m 69 #[.val (.int p1), .val (.int p2), .val (.int (0 : Int32)), .val (.int (1 : Int32)), .val (.ref c_EMAIL), .val (.ref l_EN), .unset, .unset] [])) rfl (hb hby at_69) (n := 24) (by decide) (by decide) (by decide) (by decide)
      have K10 := (Keep.refl _ []).ext E10
      refine Go.st st10 ?_
      show Go p e below _ T10 (mkF m 71 #[.val (.int p1), .val (.int p2), .val (.int (0 : Int32)), .val (.int (1 : Int32)), .val (.ref c_EMAIL), .val (.ref l_EN), .unset, .unset] [(.ref b10)])
      refine Go.st (fun _ h => XS.astore X10.here hx rfl (hb hby at_71) rfl rfl (l' := #[.val (.int p1), .val (.int p2), .val (.int (0 : Int32)), .val (.int (1 : Int32)), .val (.ref c_EMAIL), .val (.ref l_EN), .val (.ref b10), .unset]) rfl h) ?_
      show Go p e below _ T10 (mkF m 73 #[.val (.int p1), .val (.int p2), .val (.int (0 : Int32)), .val (.int (1 : Int32)), .val (.ref c_EMAIL), .val (.ref l_EN), .val (.ref b10), .unset] [])
      refine Go.st (fun _ h => XS.goto X10.here hx rfl (pc0 := 73) (pc' := 80) rfl (hb hby at_73) (by decide) (by decide) h) ?_
      show Go p e below _ T10 (mkF m 80 #[.val (.int p1), .val (.int p2), .val (.int (0 : Int32)), .val (.int (1 : Int32)), .val (.ref c_EMAIL), .val (.ref l_EN), .val (.ref b10), .unset] [])
      refine Go.st (fun _ h => XS.aload X10.here hx rfl (hb hby at_80) rfl rfl h) ?_
      show Go p e below _ T10 (mkF m 82 #[.val (.int p1), .val (.int p2), .val (.int (0 : Int32)), .val (.int (1 : Int32)), .val (.ref c_EMAIL), .val (.ref l_EN), .val (.ref b10), .unset] [(.ref c_EMAIL)])
      refine Go.st (fun _ h => XS.aload X10.here hx rfl (hb hby at_82) rfl rfl h) ?_
      show Go p e below _ T10 (mkF m 84 #[.val (.int p1), .val (.int p2), .val (.int (0 : Int32)), .val (.int (1 : Int32)), .val (.ref c_EMAIL), .val (.ref l_EN), .val (.ref b10), .unset] [(.ref l_EN), (.ref c_EMAIL)])
      obtain ⟨T11, X11, e11, st11⟩ := own_still rfl rfl (Does.virtual (y := (⟨"einwilligung/ledger/Channel", "label", "(Leinwilligung/wordings/Language;)Ljava/lang/String;"⟩ : MethodName)) (g := (mkF m 84 #[.val (.int p1), .val (.int p2), .val (.int (0 : Int32)), .val (.int (1 : Int32)), .val (.ref c_EMAIL), .val (.ref l_EN), .val (.ref b10), .unset] [(.ref l_EN), (.ref c_EMAIL)])) (a := c_EMAIL) (rmLabel1 l Z a0 hw c_EMAIL l_EN g_EMAIL e_EMAIL h10 (E_l_EN.keep K10) (F_l_EN.keep K10 nin0) (G_EMAIL_german.keep K10 nin0) (G_EMAIL_english.keep K10 nin0)) X10 hx hZ hown e10 (E_c_EMAIL.keep K10) (hw _ (List.mem_of_getElem? (i := 14) rfl)) (hw _ (List.mem_of_getElem? (i := 15) rfl)) (hw _ (List.mem_of_getElem? (i := 17) rfl)) (hw _ (List.mem_of_getElem? (i := 16) rfl)) (hw _ (List.mem_of_getElem? (i := 1) rfl)) (hw _ (List.mem_of_getElem? (i := 18) rfl)) (by decide) rfl (by rw [hml]; rfl) (argsL := [(.ref l_EN)]) (rest := []) (lenOf pd_28Leinwilligung2fwordings2fLanguage3b29Ljava2flang2fString3b rfl) rfl (hb hby at_84) (W := 0) (by show 2 * 0 + _ ≤ _; exact Nat.le_of_eq rfl) (by decide) (by decide) (by decide) (by decide))
      refine Go.st st11 ?_
      show Go p e below _ T11 (mkF m 87 #[.val (.int p1), .val (.int p2), .val (.int (0 : Int32)), .val (.int (1 : Int32)), .val (.ref c_EMAIL), .val (.ref l_EN), .val (.ref b10), .unset] [(.ref e_EMAIL)])
      refine Go.st (fun _ h => XS.astore X11.here hx rfl (hb hby at_87) rfl rfl (l' := #[.val (.int p1), .val (.int p2), .val (.int (0 : Int32)), .val (.int (1 : Int32)), .val (.ref c_EMAIL), .val (.ref l_EN), .val (.ref b10), .val (.ref e_EMAIL)]) rfl h) ?_
      show Go p e below _ T11 (mkF m 89 #[.val (.int p1), .val (.int p2), .val (.int (0 : Int32)), .val (.int (1 : Int32)), .val (.ref c_EMAIL), .val (.ref l_EN), .val (.ref b10), .val (.ref e_EMAIL)] [])
      refine Go.st (fun _ h => XS.aload X11.here hx rfl (hb hby at_89) rfl rfl h) ?_
      show Go p e below _ T11 (mkF m 91 #[.val (.int p1), .val (.int p2), .val (.int (0 : Int32)), .val (.int (1 : Int32)), .val (.ref c_EMAIL), .val (.ref l_EN), .val (.ref b10), .val (.ref e_EMAIL)] [(.ref e_EMAIL)])
      refine Go.st (fun _ h => XS.ifnullNo X11.here hx rfl (hb hby at_91) rfl h) ?_
      show Go p e below _ T11 (mkF m 94 #[.val (.int p1), .val (.int p2), .val (.int (0 : Int32)), .val (.int (1 : Int32)), .val (.ref c_EMAIL), .val (.ref l_EN), .val (.ref b10), .val (.ref e_EMAIL)] [])
      refine Go.st (fun _ h => XS.aload X11.here hx rfl (hb hby at_94) rfl rfl h) ?_
      show Go p e below _ T11 (mkF m 96 #[.val (.int p1), .val (.int p2), .val (.int (0 : Int32)), .val (.int (1 : Int32)), .val (.ref c_EMAIL), .val (.ref l_EN), .val (.ref b10), .val (.ref e_EMAIL)] [(.ref e_EMAIL)])
      refine Go.st (fun _ h => XS.aload X11.here hx rfl (hb hby at_96) rfl rfl h) ?_
      show Go p e below _ T11 (mkF m 98 #[.val (.int p1), .val (.int p2), .val (.int (0 : Int32)), .val (.int (1 : Int32)), .val (.ref c_EMAIL), .val (.ref l_EN), .val (.ref b10), .val (.ref e_EMAIL)] [(.ref b10), (.ref e_EMAIL)])
      obtain ⟨T12, X12, e12, st12⟩ := own_still rfl rfl (Does.virtual (y := (⟨"java/lang/String", "equals", "(Ljava/lang/Object;)Z"⟩ : MethodName)) (g := (mkF m 98 #[.val (.int p1), .val (.int p2), .val (.int (0 : Int32)), .val (.int (1 : Int32)), .val (.ref c_EMAIL), .val (.ref l_EN), .val (.ref b10), .val (.ref e_EMAIL)] [(.ref b10), (.ref e_EMAIL)])) (a := e_EMAIL) (rmEq_email l Z a0 hw e_EMAIL b10 t_e_EMAIL t10 k_e_EMAIL q10 zc h10 (E_e_EMAIL.keep K10) (C_e_EMAIL.keep K10 nin0) (V_e_EMAIL.keep K10 nin0) A10 C10 V10 (B_e_EMAIL.keep K10 nin0) B10 (S_CS.ext (own_ext K10)) hzc) X11 hx hZ hown e11 (E_e_EMAIL.keep K10) (hw _ (List.mem_of_getElem? (i := 37) rfl)) (hw _ (List.mem_of_getElem? (i := 38) rfl)) (hw _ (List.mem_of_getElem? (i := 40) rfl)) (hw _ (List.mem_of_getElem? (i := 39) rfl)) (hw _ (List.mem_of_getElem? (i := 7) rfl)) (hw _ (List.mem_of_getElem? (i := 41) rfl)) (by decide) rfl (by rw [hml]; rfl) (argsL := [(.ref b10)]) (rest := []) (lenOf pd_28Ljava2flang2fObject3b29Z rfl) rfl (hb hby at_98) (W := 0) (by show 2 * 0 + _ ≤ _; exact Nat.le_of_eq rfl) (by decide) (by decide) (by decide) (by decide))
      refine Go.st st12 ?_
      show Go p e below _ T12 (mkF m 101 #[.val (.int p1), .val (.int p2), .val (.int (0 : Int32)), .val (.int (1 : Int32)), .val (.ref c_EMAIL), .val (.ref l_EN), .val (.ref b10), .val (.ref e_EMAIL)] [(.int (1 : Int32))])
      refine Go.st (fun _ h => XS.ifNo X12.here hx rfl (hb hby at_101) rfl (by decide) h) ?_
      show Go p e below _ T12 (mkF m 104 #[.val (.int p1), .val (.int p2), .val (.int (0 : Int32)), .val (.int (1 : Int32)), .val (.ref c_EMAIL), .val (.ref l_EN), .val (.ref b10), .val (.ref e_EMAIL)] [])
      refine Go.st (fun _ h => XT.iconstV X12.here hx rfl (1 : Int32) (hb hby at_104) (by decide) h) ?_
      show Go p e below _ T12 (mkF m 105 #[.val (.int p1), .val (.int p2), .val (.int (0 : Int32)), .val (.int (1 : Int32)), .val (.ref c_EMAIL), .val (.ref l_EN), .val (.ref b10), .val (.ref e_EMAIL)] [(.int (1 : Int32))])
      refine Go.st (fun _ h => XS.goto X12.here hx rfl (pc0 := 105) (pc' := 109) rfl (hb hby at_105) (by decide) (by decide) h) ?_
      show Go p e below _ T12 (mkF m 109 #[.val (.int p1), .val (.int p2), .val (.int (0 : Int32)), .val (.int (1 : Int32)), .val (.ref c_EMAIL), .val (.ref l_EN), .val (.ref b10), .val (.ref e_EMAIL)] [(.int (1 : Int32))])
      refine Go.retZW X12 hx hlk hret rfl (hb hby at_109) hS (by rw [e12]; exact hkS) (by decide) (by decide) ?_
      exact ⟨rfl, Fr.nil _⟩
  · refine Go.st (fun _ h => XS.ifNo X0.here hx rfl (hb hby at_3) rfl ((if0 _ _).trans (feq hc1).1) h) ?_
    show Go p e below _ s₁ (mkF m 6 #[.val (.int p1), .val (.int p2), .unset, .unset, .unset, .unset, .unset, .unset] [])
    refine Go.st (fun _ h => XT.iconstV X0.here hx rfl (1 : Int32) (hb hby at_6) (by decide) h) ?_
    show Go p e below _ s₁ (mkF m 7 #[.val (.int p1), .val (.int p2), .unset, .unset, .unset, .unset, .unset, .unset] [(.int (1 : Int32))])
    refine Go.st (fun _ h => XS.goto X0.here hx rfl (pc0 := 7) (pc' := 11) rfl (hb hby at_7) (by decide) (by decide) h) ?_
    show Go p e below _ s₁ (mkF m 11 #[.val (.int p1), .val (.int p2), .unset, .unset, .unset, .unset, .unset, .unset] [(.int (1 : Int32))])
    refine Go.st (fun _ h => XS.istoreN X0.here hx rfl (hb hby at_11) rfl (l' := #[.val (.int p1), .val (.int p2), .val (.int (1 : Int32)), .unset, .unset, .unset, .unset, .unset]) rfl h) ?_
    show Go p e below _ s₁ (mkF m 12 #[.val (.int p1), .val (.int p2), .val (.int (1 : Int32)), .unset, .unset, .unset, .unset, .unset] [])
    refine Go.st (fun _ h => XS.iloadN X0.here hx rfl (hb hby at_12) rfl h) ?_
    show Go p e below _ s₁ (mkF m 13 #[.val (.int p1), .val (.int p2), .val (.int (1 : Int32)), .unset, .unset, .unset, .unset, .unset] [(.int p2)])
    refine Go.st (fun _ h => XT.iconstV X0.here hx rfl (1 : Int32) (hb hby at_13) (by decide) h) ?_
    show Go p e below _ s₁ (mkF m 14 #[.val (.int p1), .val (.int p2), .val (.int (1 : Int32)), .unset, .unset, .unset, .unset, .unset] [(.int (1 : Int32)), (.int p2)])
    refine Go.st (fun _ h => XS.iand X0.here hx rfl (hb hby at_14) rfl h) ?_
    show Go p e below _ s₁ (mkF m 15 #[.val (.int p1), .val (.int p2), .val (.int (1 : Int32)), .unset, .unset, .unset, .unset, .unset] [(.int (p2 &&& (1 : Int32)))])
    by_cases hc13 : (p2 &&& (1 : Int32)) = (0 : Int32)
    · refine Go.st (fun _ h => XS.ifYes X0.here hx rfl (pc0 := 15) (pc' := 22) rfl (hb hby at_15) rfl ((if0 _ _).trans (teq hc13).1) (by decide) (by decide) h) ?_
      show Go p e below _ s₁ (mkF m 22 #[.val (.int p1), .val (.int p2), .val (.int (1 : Int32)), .unset, .unset, .unset, .unset, .unset] [])
      refine Go.st (fun _ h => XT.iconstV X0.here hx rfl (0 : Int32) (hb hby at_22) (by decide) h) ?_
      show Go p e below _ s₁ (mkF m 23 #[.val (.int p1), .val (.int p2), .val (.int (1 : Int32)), .unset, .unset, .unset, .unset, .unset] [(.int (0 : Int32))])
      refine Go.st (fun _ h => XS.istoreN X0.here hx rfl (hb hby at_23) rfl (l' := #[.val (.int p1), .val (.int p2), .val (.int (1 : Int32)), .val (.int (0 : Int32)), .unset, .unset, .unset, .unset]) rfl h) ?_
      show Go p e below _ s₁ (mkF m 24 #[.val (.int p1), .val (.int p2), .val (.int (1 : Int32)), .val (.int (0 : Int32)), .unset, .unset, .unset, .unset] [])
      refine Go.st (fun _ h => XS.iloadN X0.here hx rfl (hb hby at_24) rfl h) ?_
      show Go p e below _ s₁ (mkF m 25 #[.val (.int p1), .val (.int p2), .val (.int (1 : Int32)), .val (.int (0 : Int32)), .unset, .unset, .unset, .unset] [(.int (1 : Int32))])
      refine Go.st (fun _ h => XS.ifNo X0.here hx rfl (hb hby at_25) rfl (by decide) h) ?_
      show Go p e below _ s₁ (mkF m 28 #[.val (.int p1), .val (.int p2), .val (.int (1 : Int32)), .val (.int (0 : Int32)), .unset, .unset, .unset, .unset] [])
      obtain ⟨T14, X14, e14, st14⟩ := getS2 X0 hx hZ hown (host := "") (Or.inl (hw _ (List.mem_of_getElem? (i := 54) rfl))) Via.refl e0 S_SMS (g := (mkF m 28 #[.val (.int p1), .val (.int p2), .val (.int (1 : Int32)), .val (.int (0 : Int32)), .unset, .unset, .unset, .unset] [])) rfl (hb hby at_28)
      refine Go.st st14 ?_
      show Go p e below _ T14 (mkF m 31 #[.val (.int p1), .val (.int p2), .val (.int (1 : Int32)), .val (.int (0 : Int32)), .unset, .unset, .unset, .unset] [(.ref c_SMS)])
      refine Go.st (fun _ h => XS.goto X14.here hx rfl (pc0 := 31) (pc' := 37) rfl (hb hby at_31) (by decide) (by decide) h) ?_
      show Go p e below _ T14 (mkF m 37 #[.val (.int p1), .val (.int p2), .val (.int (1 : Int32)), .val (.int (0 : Int32)), .unset, .unset, .unset, .unset] [(.ref c_SMS)])
      refine Go.st (fun _ h => XS.astore X14.here hx rfl (hb hby at_37) rfl rfl (l' := #[.val (.int p1), .val (.int p2), .val (.int (1 : Int32)), .val (.int (0 : Int32)), .val (.ref c_SMS), .unset, .unset, .unset]) rfl h) ?_
      show Go p e below _ T14 (mkF m 39 #[.val (.int p1), .val (.int p2), .val (.int (1 : Int32)), .val (.int (0 : Int32)), .val (.ref c_SMS), .unset, .unset, .unset] [])
      refine Go.st (fun _ h => XS.iloadN X14.here hx rfl (hb hby at_39) rfl h) ?_
      show Go p e below _ T14 (mkF m 40 #[.val (.int p1), .val (.int p2), .val (.int (1 : Int32)), .val (.int (0 : Int32)), .val (.ref c_SMS), .unset, .unset, .unset] [(.int (0 : Int32))])
      refine Go.st (fun _ h => XS.ifYes X14.here hx rfl (pc0 := 40) (pc' := 49) rfl (hb hby at_40) rfl (by decide) (by decide) (by decide) h) ?_
      show Go p e below _ T14 (mkF m 49 #[.val (.int p1), .val (.int p2), .val (.int (1 : Int32)), .val (.int (0 : Int32)), .val (.ref c_SMS), .unset, .unset, .unset] [])
      obtain ⟨T15, X15, e15, st15⟩ := getS2 X14 hx hZ hown (host := "") (Or.inl (hw _ (List.mem_of_getElem? (i := 51) rfl))) Via.refl e14 S_DE (g := (mkF m 49 #[.val (.int p1), .val (.int p2), .val (.int (1 : Int32)), .val (.int (0 : Int32)), .val (.ref c_SMS), .unset, .unset, .unset] [])) rfl (hb hby at_49)
      refine Go.st st15 ?_
      show Go p e below _ T15 (mkF m 52 #[.val (.int p1), .val (.int p2), .val (.int (1 : Int32)), .val (.int (0 : Int32)), .val (.ref c_SMS), .unset, .unset, .unset] [(.ref l_DE)])
      refine Go.st (fun _ h => XS.astore X15.here hx rfl (hb hby at_52) rfl rfl (l' := #[.val (.int p1), .val (.int p2), .val (.int (1 : Int32)), .val (.int (0 : Int32)), .val (.ref c_SMS), .val (.ref l_DE), .unset, .unset]) rfl h) ?_
      show Go p e below _ T15 (mkF m 54 #[.val (.int p1), .val (.int p2), .val (.int (1 : Int32)), .val (.int (0 : Int32)), .val (.ref c_SMS), .val (.ref l_DE), .unset, .unset] [])
      refine Go.st (fun _ h => XS.iloadN X15.here hx rfl (hb hby at_54) rfl h) ?_
      show Go p e below _ T15 (mkF m 55 #[.val (.int p1), .val (.int p2), .val (.int (1 : Int32)), .val (.int (0 : Int32)), .val (.ref c_SMS), .val (.ref l_DE), .unset, .unset] [(.int (1 : Int32))])
      refine Go.st (fun _ h => XS.ifNo X15.here hx rfl (hb hby at_55) rfl (by decide) h) ?_
      show Go p e below _ T15 (mkF m 58 #[.val (.int p1), .val (.int p2), .val (.int (1 : Int32)), .val (.int (0 : Int32)), .val (.ref c_SMS), .val (.ref l_DE), .unset, .unset] [])
      obtain ⟨b16, T16, h16, k16, t16, q16, X16, e16, E16, hS, hkS, hZ, hown, A16, C16, V16, B16, lt16, lu16, -, st16⟩ := ldcSV (s := Z) (vm0 := Z.vm) X15 hx hZ hown (hw _ (List.mem_of_getElem? (i := 56) rfl)) wS e15 hS hkS (Fr.nil _) (fun _ _ q => q) IB.start (by decide) (hheld _ (List.mem_of_getElem? (i := 0) rfl)) hcw (vs := [(.int (83 : Int32)), (.int (77 : Int32)), (.int (83 : Int32))]) (z := (3 : Int32)) ⟨by decide, by decide⟩ (by decide) (by decide) (g := (mkF m 58 #[.val (.int p1), .val (.int p2), .val (.int (1 : Int32)), .val (.int (0 : Int32)), .val (.ref c_SMS), .val (.ref l_DE), .unset, .unset] [])) rfl (hb hby at_58) (n := 12) (by decide) (by decide) (by decide) (by decide)
      have K16 := (Keep.refl _ []).ext E16
      refine Go.st st16 ?_
      show Go p e below _ T16 (mkF m 60 #[.val (.int p1), .val (.int p2), .val (.int (1 : Int32)), .val (.int (0 : Int32)), .val (.ref c_SMS), .val (.ref l_DE), .unset, .unset] [(.ref b16)])
      refine Go.st (fun _ h => XS.astore X16.here hx rfl (hb hby at_60) rfl rfl (l' := #[.val (.int p1), .val (.int p2), .val (.int (1 : Int32)), .val (.int (0 : Int32)), .val (.ref c_SMS), .val (.ref l_DE), .val (.ref b16), .unset]) rfl h) ?_
      show Go p e below _ T16 (mkF m 62 #[.val (.int p1), .val (.int p2), .val (.int (1 : Int32)), .val (.int (0 : Int32)), .val (.ref c_SMS), .val (.ref l_DE), .val (.ref b16), .unset] [])
      refine Go.st (fun _ h => XS.goto X16.here hx rfl (pc0 := 62) (pc' := 80) rfl (hb hby at_62) (by decide) (by decide) h) ?_
      show Go p e below _ T16 (mkF m 80 #[.val (.int p1), .val (.int p2), .val (.int (1 : Int32)), .val (.int (0 : Int32)), .val (.ref c_SMS), .val (.ref l_DE), .val (.ref b16), .unset] [])
      refine Go.st (fun _ h => XS.aload X16.here hx rfl (hb hby at_80) rfl rfl h) ?_
      show Go p e below _ T16 (mkF m 82 #[.val (.int p1), .val (.int p2), .val (.int (1 : Int32)), .val (.int (0 : Int32)), .val (.ref c_SMS), .val (.ref l_DE), .val (.ref b16), .unset] [(.ref c_SMS)])
      refine Go.st (fun _ h => XS.aload X16.here hx rfl (hb hby at_82) rfl rfl h) ?_
      show Go p e below _ T16 (mkF m 84 #[.val (.int p1), .val (.int p2), .val (.int (1 : Int32)), .val (.int (0 : Int32)), .val (.ref c_SMS), .val (.ref l_DE), .val (.ref b16), .unset] [(.ref l_DE), (.ref c_SMS)])
      obtain ⟨T17, X17, e17, st17⟩ := own_still rfl rfl (Does.virtual (y := (⟨"einwilligung/ledger/Channel", "label", "(Leinwilligung/wordings/Language;)Ljava/lang/String;"⟩ : MethodName)) (g := (mkF m 84 #[.val (.int p1), .val (.int p2), .val (.int (1 : Int32)), .val (.int (0 : Int32)), .val (.ref c_SMS), .val (.ref l_DE), .val (.ref b16), .unset] [(.ref l_DE), (.ref c_SMS)])) (a := c_SMS) (rmLabel0 l Z a0 hw c_SMS l_DE g_SMS g_SMS h16 (E_l_DE.keep K16) (F_l_DE.keep K16 nin0) (G_SMS_german.keep K16 nin0) (G_SMS_english.keep K16 nin0)) X16 hx hZ hown e16 (E_c_SMS.keep K16) (hw _ (List.mem_of_getElem? (i := 14) rfl)) (hw _ (List.mem_of_getElem? (i := 15) rfl)) (hw _ (List.mem_of_getElem? (i := 17) rfl)) (hw _ (List.mem_of_getElem? (i := 16) rfl)) (hw _ (List.mem_of_getElem? (i := 1) rfl)) (hw _ (List.mem_of_getElem? (i := 18) rfl)) (by decide) rfl (by rw [hml]; rfl) (argsL := [(.ref l_DE)]) (rest := []) (lenOf pd_28Leinwilligung2fwordings2fLanguage3b29Ljava2flang2fString3b rfl) rfl (hb hby at_84) (W := 0) (by show 2 * 0 + _ ≤ _; exact Nat.le_of_eq rfl) (by decide) (by decide) (by decide) (by decide))
      refine Go.st st17 ?_
      show Go p e below _ T17 (mkF m 87 #[.val (.int p1), .val (.int p2), .val (.int (1 : Int32)), .val (.int (0 : Int32)), .val (.ref c_SMS), .val (.ref l_DE), .val (.ref b16), .unset] [(.ref g_SMS)])
      refine Go.st (fun _ h => XS.astore X17.here hx rfl (hb hby at_87) rfl rfl (l' := #[.val (.int p1), .val (.int p2), .val (.int (1 : Int32)), .val (.int (0 : Int32)), .val (.ref c_SMS), .val (.ref l_DE), .val (.ref b16), .val (.ref g_SMS)]) rfl h) ?_
      show Go p e below _ T17 (mkF m 89 #[.val (.int p1), .val (.int p2), .val (.int (1 : Int32)), .val (.int (0 : Int32)), .val (.ref c_SMS), .val (.ref l_DE), .val (.ref b16), .val (.ref g_SMS)] [])
      refine Go.st (fun _ h => XS.aload X17.here hx rfl (hb hby at_89) rfl rfl h) ?_
      show Go p e below _ T17 (mkF m 91 #[.val (.int p1), .val (.int p2), .val (.int (1 : Int32)), .val (.int (0 : Int32)), .val (.ref c_SMS), .val (.ref l_DE), .val (.ref b16), .val (.ref g_SMS)] [(.ref g_SMS)])
      refine Go.st (fun _ h => XS.ifnullNo X17.here hx rfl (hb hby at_91) rfl h) ?_
      show Go p e below _ T17 (mkF m 94 #[.val (.int p1), .val (.int p2), .val (.int (1 : Int32)), .val (.int (0 : Int32)), .val (.ref c_SMS), .val (.ref l_DE), .val (.ref b16), .val (.ref g_SMS)] [])
      refine Go.st (fun _ h => XS.aload X17.here hx rfl (hb hby at_94) rfl rfl h) ?_
      show Go p e below _ T17 (mkF m 96 #[.val (.int p1), .val (.int p2), .val (.int (1 : Int32)), .val (.int (0 : Int32)), .val (.ref c_SMS), .val (.ref l_DE), .val (.ref b16), .val (.ref g_SMS)] [(.ref g_SMS)])
      refine Go.st (fun _ h => XS.aload X17.here hx rfl (hb hby at_96) rfl rfl h) ?_
      show Go p e below _ T17 (mkF m 98 #[.val (.int p1), .val (.int p2), .val (.int (1 : Int32)), .val (.int (0 : Int32)), .val (.ref c_SMS), .val (.ref l_DE), .val (.ref b16), .val (.ref g_SMS)] [(.ref b16), (.ref g_SMS)])
      obtain ⟨T18, X18, e18, st18⟩ := own_still rfl rfl (Does.virtual (y := (⟨"java/lang/String", "equals", "(Ljava/lang/Object;)Z"⟩ : MethodName)) (g := (mkF m 98 #[.val (.int p1), .val (.int p2), .val (.int (1 : Int32)), .val (.int (0 : Int32)), .val (.ref c_SMS), .val (.ref l_DE), .val (.ref b16), .val (.ref g_SMS)] [(.ref b16), (.ref g_SMS)])) (a := g_SMS) (rmEq_SMS l Z a0 hw g_SMS b16 t_g_SMS t16 k_g_SMS q16 zc h16 (E_g_SMS.keep K16) (C_g_SMS.keep K16 nin0) (V_g_SMS.keep K16 nin0) A16 C16 V16 (B_g_SMS.keep K16 nin0) B16 (S_CS.ext (own_ext K16)) hzc) X17 hx hZ hown e17 (E_g_SMS.keep K16) (hw _ (List.mem_of_getElem? (i := 37) rfl)) (hw _ (List.mem_of_getElem? (i := 38) rfl)) (hw _ (List.mem_of_getElem? (i := 40) rfl)) (hw _ (List.mem_of_getElem? (i := 39) rfl)) (hw _ (List.mem_of_getElem? (i := 7) rfl)) (hw _ (List.mem_of_getElem? (i := 41) rfl)) (by decide) rfl (by rw [hml]; rfl) (argsL := [(.ref b16)]) (rest := []) (lenOf pd_28Ljava2flang2fObject3b29Z rfl) rfl (hb hby at_98) (W := 0) (by show 2 * 0 + _ ≤ _; exact Nat.le_of_eq rfl) (by decide) (by decide) (by decide) (by decide))
      refine Go.st st18 ?_
      show Go p e below _ T18 (mkF m 101 #[.val (.int p1), .val (.int p2), .val (.int (1 : Int32)), .val (.int (0 : Int32)), .val (.ref c_SMS), .val (.ref l_DE), .val (.ref b16), .val (.ref g_SMS)] [(.int (1 : Int32))])
      refine Go.st (fun _ h => XS.ifNo X18.here hx rfl (hb hby at_101) rfl (by decide) h) ?_
      show Go p e below _ T18 (mkF m 104 #[.val (.int p1), .val (.int p2), .val (.int (1 : Int32)), .val (.int (0 : Int32)), .val (.ref c_SMS), .val (.ref l_DE), .val (.ref b16), .val (.ref g_SMS)] [])
      refine Go.st (fun _ h => XT.iconstV X18.here hx rfl (1 : Int32) (hb hby at_104) (by decide) h) ?_
      show Go p e below _ T18 (mkF m 105 #[.val (.int p1), .val (.int p2), .val (.int (1 : Int32)), .val (.int (0 : Int32)), .val (.ref c_SMS), .val (.ref l_DE), .val (.ref b16), .val (.ref g_SMS)] [(.int (1 : Int32))])
      refine Go.st (fun _ h => XS.goto X18.here hx rfl (pc0 := 105) (pc' := 109) rfl (hb hby at_105) (by decide) (by decide) h) ?_
      show Go p e below _ T18 (mkF m 109 #[.val (.int p1), .val (.int p2), .val (.int (1 : Int32)), .val (.int (0 : Int32)), .val (.ref c_SMS), .val (.ref l_DE), .val (.ref b16), .val (.ref g_SMS)] [(.int (1 : Int32))])
      refine Go.retZW X18 hx hlk hret rfl (hb hby at_109) hS (by rw [e18]; exact hkS) (by decide) (by decide) ?_
      exact ⟨rfl, Fr.nil _⟩
    · refine Go.st (fun _ h => XS.ifNo X0.here hx rfl (hb hby at_15) rfl ((if0 _ _).trans (feq hc13).1) h) ?_
      show Go p e below _ s₁ (mkF m 18 #[.val (.int p1), .val (.int p2), .val (.int (1 : Int32)), .unset, .unset, .unset, .unset, .unset] [])
      refine Go.st (fun _ h => XT.iconstV X0.here hx rfl (1 : Int32) (hb hby at_18) (by decide) h) ?_
      show Go p e below _ s₁ (mkF m 19 #[.val (.int p1), .val (.int p2), .val (.int (1 : Int32)), .unset, .unset, .unset, .unset, .unset] [(.int (1 : Int32))])
      refine Go.st (fun _ h => XS.goto X0.here hx rfl (pc0 := 19) (pc' := 23) rfl (hb hby at_19) (by decide) (by decide) h) ?_
      show Go p e below _ s₁ (mkF m 23 #[.val (.int p1), .val (.int p2), .val (.int (1 : Int32)), .unset, .unset, .unset, .unset, .unset] [(.int (1 : Int32))])
      refine Go.st (fun _ h => XS.istoreN X0.here hx rfl (hb hby at_23) rfl (l' := #[.val (.int p1), .val (.int p2), .val (.int (1 : Int32)), .val (.int (1 : Int32)), .unset, .unset, .unset, .unset]) rfl h) ?_
      show Go p e below _ s₁ (mkF m 24 #[.val (.int p1), .val (.int p2), .val (.int (1 : Int32)), .val (.int (1 : Int32)), .unset, .unset, .unset, .unset] [])
      refine Go.st (fun _ h => XS.iloadN X0.here hx rfl (hb hby at_24) rfl h) ?_
      show Go p e below _ s₁ (mkF m 25 #[.val (.int p1), .val (.int p2), .val (.int (1 : Int32)), .val (.int (1 : Int32)), .unset, .unset, .unset, .unset] [(.int (1 : Int32))])
      refine Go.st (fun _ h => XS.ifNo X0.here hx rfl (hb hby at_25) rfl (by decide) h) ?_
      show Go p e below _ s₁ (mkF m 28 #[.val (.int p1), .val (.int p2), .val (.int (1 : Int32)), .val (.int (1 : Int32)), .unset, .unset, .unset, .unset] [])
      obtain ⟨T19, X19, e19, st19⟩ := getS2 X0 hx hZ hown (host := "") (Or.inl (hw _ (List.mem_of_getElem? (i := 54) rfl))) Via.refl e0 S_SMS (g := (mkF m 28 #[.val (.int p1), .val (.int p2), .val (.int (1 : Int32)), .val (.int (1 : Int32)), .unset, .unset, .unset, .unset] [])) rfl (hb hby at_28)
      refine Go.st st19 ?_
      show Go p e below _ T19 (mkF m 31 #[.val (.int p1), .val (.int p2), .val (.int (1 : Int32)), .val (.int (1 : Int32)), .unset, .unset, .unset, .unset] [(.ref c_SMS)])
      refine Go.st (fun _ h => XS.goto X19.here hx rfl (pc0 := 31) (pc' := 37) rfl (hb hby at_31) (by decide) (by decide) h) ?_
      show Go p e below _ T19 (mkF m 37 #[.val (.int p1), .val (.int p2), .val (.int (1 : Int32)), .val (.int (1 : Int32)), .unset, .unset, .unset, .unset] [(.ref c_SMS)])
      refine Go.st (fun _ h => XS.astore X19.here hx rfl (hb hby at_37) rfl rfl (l' := #[.val (.int p1), .val (.int p2), .val (.int (1 : Int32)), .val (.int (1 : Int32)), .val (.ref c_SMS), .unset, .unset, .unset]) rfl h) ?_
      show Go p e below _ T19 (mkF m 39 #[.val (.int p1), .val (.int p2), .val (.int (1 : Int32)), .val (.int (1 : Int32)), .val (.ref c_SMS), .unset, .unset, .unset] [])
      refine Go.st (fun _ h => XS.iloadN X19.here hx rfl (hb hby at_39) rfl h) ?_
      show Go p e below _ T19 (mkF m 40 #[.val (.int p1), .val (.int p2), .val (.int (1 : Int32)), .val (.int (1 : Int32)), .val (.ref c_SMS), .unset, .unset, .unset] [(.int (1 : Int32))])
      refine Go.st (fun _ h => XS.ifNo X19.here hx rfl (hb hby at_40) rfl (by decide) h) ?_
      show Go p e below _ T19 (mkF m 43 #[.val (.int p1), .val (.int p2), .val (.int (1 : Int32)), .val (.int (1 : Int32)), .val (.ref c_SMS), .unset, .unset, .unset] [])
      obtain ⟨T20, X20, e20, st20⟩ := getS2 X19 hx hZ hown (host := "") (Or.inl (hw _ (List.mem_of_getElem? (i := 3) rfl))) Via.refl e19 S_EN (g := (mkF m 43 #[.val (.int p1), .val (.int p2), .val (.int (1 : Int32)), .val (.int (1 : Int32)), .val (.ref c_SMS), .unset, .unset, .unset] [])) rfl (hb hby at_43)
      refine Go.st st20 ?_
      show Go p e below _ T20 (mkF m 46 #[.val (.int p1), .val (.int p2), .val (.int (1 : Int32)), .val (.int (1 : Int32)), .val (.ref c_SMS), .unset, .unset, .unset] [(.ref l_EN)])
      refine Go.st (fun _ h => XS.goto X20.here hx rfl (pc0 := 46) (pc' := 52) rfl (hb hby at_46) (by decide) (by decide) h) ?_
      show Go p e below _ T20 (mkF m 52 #[.val (.int p1), .val (.int p2), .val (.int (1 : Int32)), .val (.int (1 : Int32)), .val (.ref c_SMS), .unset, .unset, .unset] [(.ref l_EN)])
      refine Go.st (fun _ h => XS.astore X20.here hx rfl (hb hby at_52) rfl rfl (l' := #[.val (.int p1), .val (.int p2), .val (.int (1 : Int32)), .val (.int (1 : Int32)), .val (.ref c_SMS), .val (.ref l_EN), .unset, .unset]) rfl h) ?_
      show Go p e below _ T20 (mkF m 54 #[.val (.int p1), .val (.int p2), .val (.int (1 : Int32)), .val (.int (1 : Int32)), .val (.ref c_SMS), .val (.ref l_EN), .unset, .unset] [])
      refine Go.st (fun _ h => XS.iloadN X20.here hx rfl (hb hby at_54) rfl h) ?_
      show Go p e below _ T20 (mkF m 55 #[.val (.int p1), .val (.int p2), .val (.int (1 : Int32)), .val (.int (1 : Int32)), .val (.ref c_SMS), .val (.ref l_EN), .unset, .unset] [(.int (1 : Int32))])
      refine Go.st (fun _ h => XS.ifNo X20.here hx rfl (hb hby at_55) rfl (by decide) h) ?_
      show Go p e below _ T20 (mkF m 58 #[.val (.int p1), .val (.int p2), .val (.int (1 : Int32)), .val (.int (1 : Int32)), .val (.ref c_SMS), .val (.ref l_EN), .unset, .unset] [])
      obtain ⟨b21, T21, h21, k21, t21, q21, X21, e21, E21, hS, hkS, hZ, hown, A21, C21, V21, B21, lt21, lu21, -, st21⟩ := ldcSV (s := Z) (vm0 := Z.vm) X20 hx hZ hown (hw _ (List.mem_of_getElem? (i := 56) rfl)) wS e20 hS hkS (Fr.nil _) (fun _ _ q => q) IB.start (by decide) (hheld _ (List.mem_of_getElem? (i := 0) rfl)) hcw (vs := [(.int (83 : Int32)), (.int (77 : Int32)), (.int (83 : Int32))]) (z := (3 : Int32)) ⟨by decide, by decide⟩ (by decide) (by decide) (g := (mkF m 58 #[.val (.int p1), .val (.int p2), .val (.int (1 : Int32)), .val (.int (1 : Int32)), .val (.ref c_SMS), .val (.ref l_EN), .unset, .unset] [])) rfl (hb hby at_58) (n := 12) (by decide) (by decide) (by decide) (by decide)
      have K21 := (Keep.refl _ []).ext E21
      refine Go.st st21 ?_
      show Go p e below _ T21 (mkF m 60 #[.val (.int p1), .val (.int p2), .val (.int (1 : Int32)), .val (.int (1 : Int32)), .val (.ref c_SMS), .val (.ref l_EN), .unset, .unset] [(.ref b21)])
      refine Go.st (fun _ h => XS.astore X21.here hx rfl (hb hby at_60) rfl rfl (l' := #[.val (.int p1), .val (.int p2), .val (.int (1 : Int32)), .val (.int (1 : Int32)), .val (.ref c_SMS), .val (.ref l_EN), .val (.ref b21), .unset]) rfl h) ?_
      show Go p e below _ T21 (mkF m 62 #[.val (.int p1), .val (.int p2), .val (.int (1 : Int32)), .val (.int (1 : Int32)), .val (.ref c_SMS), .val (.ref l_EN), .val (.ref b21), .unset] [])
      refine Go.st (fun _ h => XS.goto X21.here hx rfl (pc0 := 62) (pc' := 80) rfl (hb hby at_62) (by decide) (by decide) h) ?_
      show Go p e below _ T21 (mkF m 80 #[.val (.int p1), .val (.int p2), .val (.int (1 : Int32)), .val (.int (1 : Int32)), .val (.ref c_SMS), .val (.ref l_EN), .val (.ref b21), .unset] [])
      refine Go.st (fun _ h => XS.aload X21.here hx rfl (hb hby at_80) rfl rfl h) ?_
      show Go p e below _ T21 (mkF m 82 #[.val (.int p1), .val (.int p2), .val (.int (1 : Int32)), .val (.int (1 : Int32)), .val (.ref c_SMS), .val (.ref l_EN), .val (.ref b21), .unset] [(.ref c_SMS)])
      refine Go.st (fun _ h => XS.aload X21.here hx rfl (hb hby at_82) rfl rfl h) ?_
      show Go p e below _ T21 (mkF m 84 #[.val (.int p1), .val (.int p2), .val (.int (1 : Int32)), .val (.int (1 : Int32)), .val (.ref c_SMS), .val (.ref l_EN), .val (.ref b21), .unset] [(.ref l_EN), (.ref c_SMS)])
      obtain ⟨T22, X22, e22, st22⟩ := own_still rfl rfl (Does.virtual (y := (⟨"einwilligung/ledger/Channel", "label", "(Leinwilligung/wordings/Language;)Ljava/lang/String;"⟩ : MethodName)) (g := (mkF m 84 #[.val (.int p1), .val (.int p2), .val (.int (1 : Int32)), .val (.int (1 : Int32)), .val (.ref c_SMS), .val (.ref l_EN), .val (.ref b21), .unset] [(.ref l_EN), (.ref c_SMS)])) (a := c_SMS) (rmLabel1 l Z a0 hw c_SMS l_EN g_SMS g_SMS h21 (E_l_EN.keep K21) (F_l_EN.keep K21 nin0) (G_SMS_german.keep K21 nin0) (G_SMS_english.keep K21 nin0)) X21 hx hZ hown e21 (E_c_SMS.keep K21) (hw _ (List.mem_of_getElem? (i := 14) rfl)) (hw _ (List.mem_of_getElem? (i := 15) rfl)) (hw _ (List.mem_of_getElem? (i := 17) rfl)) (hw _ (List.mem_of_getElem? (i := 16) rfl)) (hw _ (List.mem_of_getElem? (i := 1) rfl)) (hw _ (List.mem_of_getElem? (i := 18) rfl)) (by decide) rfl (by rw [hml]; rfl) (argsL := [(.ref l_EN)]) (rest := []) (lenOf pd_28Leinwilligung2fwordings2fLanguage3b29Ljava2flang2fString3b rfl) rfl (hb hby at_84) (W := 0) (by show 2 * 0 + _ ≤ _; exact Nat.le_of_eq rfl) (by decide) (by decide) (by decide) (by decide))
      refine Go.st st22 ?_
      show Go p e below _ T22 (mkF m 87 #[.val (.int p1), .val (.int p2), .val (.int (1 : Int32)), .val (.int (1 : Int32)), .val (.ref c_SMS), .val (.ref l_EN), .val (.ref b21), .unset] [(.ref g_SMS)])
      refine Go.st (fun _ h => XS.astore X22.here hx rfl (hb hby at_87) rfl rfl (l' := #[.val (.int p1), .val (.int p2), .val (.int (1 : Int32)), .val (.int (1 : Int32)), .val (.ref c_SMS), .val (.ref l_EN), .val (.ref b21), .val (.ref g_SMS)]) rfl h) ?_
      show Go p e below _ T22 (mkF m 89 #[.val (.int p1), .val (.int p2), .val (.int (1 : Int32)), .val (.int (1 : Int32)), .val (.ref c_SMS), .val (.ref l_EN), .val (.ref b21), .val (.ref g_SMS)] [])
      refine Go.st (fun _ h => XS.aload X22.here hx rfl (hb hby at_89) rfl rfl h) ?_
      show Go p e below _ T22 (mkF m 91 #[.val (.int p1), .val (.int p2), .val (.int (1 : Int32)), .val (.int (1 : Int32)), .val (.ref c_SMS), .val (.ref l_EN), .val (.ref b21), .val (.ref g_SMS)] [(.ref g_SMS)])
      refine Go.st (fun _ h => XS.ifnullNo X22.here hx rfl (hb hby at_91) rfl h) ?_
      show Go p e below _ T22 (mkF m 94 #[.val (.int p1), .val (.int p2), .val (.int (1 : Int32)), .val (.int (1 : Int32)), .val (.ref c_SMS), .val (.ref l_EN), .val (.ref b21), .val (.ref g_SMS)] [])
      refine Go.st (fun _ h => XS.aload X22.here hx rfl (hb hby at_94) rfl rfl h) ?_
      show Go p e below _ T22 (mkF m 96 #[.val (.int p1), .val (.int p2), .val (.int (1 : Int32)), .val (.int (1 : Int32)), .val (.ref c_SMS), .val (.ref l_EN), .val (.ref b21), .val (.ref g_SMS)] [(.ref g_SMS)])
      refine Go.st (fun _ h => XS.aload X22.here hx rfl (hb hby at_96) rfl rfl h) ?_
      show Go p e below _ T22 (mkF m 98 #[.val (.int p1), .val (.int p2), .val (.int (1 : Int32)), .val (.int (1 : Int32)), .val (.ref c_SMS), .val (.ref l_EN), .val (.ref b21), .val (.ref g_SMS)] [(.ref b21), (.ref g_SMS)])
      obtain ⟨T23, X23, e23, st23⟩ := own_still rfl rfl (Does.virtual (y := (⟨"java/lang/String", "equals", "(Ljava/lang/Object;)Z"⟩ : MethodName)) (g := (mkF m 98 #[.val (.int p1), .val (.int p2), .val (.int (1 : Int32)), .val (.int (1 : Int32)), .val (.ref c_SMS), .val (.ref l_EN), .val (.ref b21), .val (.ref g_SMS)] [(.ref b21), (.ref g_SMS)])) (a := g_SMS) (rmEq_SMS l Z a0 hw g_SMS b21 t_g_SMS t21 k_g_SMS q21 zc h21 (E_g_SMS.keep K21) (C_g_SMS.keep K21 nin0) (V_g_SMS.keep K21 nin0) A21 C21 V21 (B_g_SMS.keep K21 nin0) B21 (S_CS.ext (own_ext K21)) hzc) X22 hx hZ hown e22 (E_g_SMS.keep K21) (hw _ (List.mem_of_getElem? (i := 37) rfl)) (hw _ (List.mem_of_getElem? (i := 38) rfl)) (hw _ (List.mem_of_getElem? (i := 40) rfl)) (hw _ (List.mem_of_getElem? (i := 39) rfl)) (hw _ (List.mem_of_getElem? (i := 7) rfl)) (hw _ (List.mem_of_getElem? (i := 41) rfl)) (by decide) rfl (by rw [hml]; rfl) (argsL := [(.ref b21)]) (rest := []) (lenOf pd_28Ljava2flang2fObject3b29Z rfl) rfl (hb hby at_98) (W := 0) (by show 2 * 0 + _ ≤ _; exact Nat.le_of_eq rfl) (by decide) (by decide) (by decide) (by decide))
      refine Go.st st23 ?_
      show Go p e below _ T23 (mkF m 101 #[.val (.int p1), .val (.int p2), .val (.int (1 : Int32)), .val (.int (1 : Int32)), .val (.ref c_SMS), .val (.ref l_EN), .val (.ref b21), .val (.ref g_SMS)] [(.int (1 : Int32))])
      refine Go.st (fun _ h => XS.ifNo X23.here hx rfl (hb hby at_101) rfl (by decide) h) ?_
      show Go p e below _ T23 (mkF m 104 #[.val (.int p1), .val (.int p2), .val (.int (1 : Int32)), .val (.int (1 : Int32)), .val (.ref c_SMS), .val (.ref l_EN), .val (.ref b21), .val (.ref g_SMS)] [])
      refine Go.st (fun _ h => XT.iconstV X23.here hx rfl (1 : Int32) (hb hby at_104) (by decide) h) ?_
      show Go p e below _ T23 (mkF m 105 #[.val (.int p1), .val (.int p2), .val (.int (1 : Int32)), .val (.int (1 : Int32)), .val (.ref c_SMS), .val (.ref l_EN), .val (.ref b21), .val (.ref g_SMS)] [(.int (1 : Int32))])
      refine Go.st (fun _ h => XS.goto X23.here hx rfl (pc0 := 105) (pc' := 109) rfl (hb hby at_105) (by decide) (by decide) h) ?_
      show Go p e below _ T23 (mkF m 109 #[.val (.int p1), .val (.int p2), .val (.int (1 : Int32)), .val (.int (1 : Int32)), .val (.ref c_SMS), .val (.ref l_EN), .val (.ref b21), .val (.ref g_SMS)] [(.int (1 : Int32))])
      refine Go.retZW X23 hx hlk hret rfl (hb hby at_109) hS (by rw [e23]; exact hkS) (by decide) (by decide) ?_
      exact ⟨rfl, Fr.nil _⟩
set_option maxRecDepth 65536 in
set_option maxHeartbeats 40000000 in
theorem comes_1 {Post : Tables → Env → Array Value → State → Outcome → State → Prop} (hpost : ∀ tb e args s v u, (limb_1_1.after args s (.returned v) u = true ∧ limb_1_2.after args s (.returned v) u = true ∧ True) → Jvm.D.FramedW s (.returned v) u (Jvm.fieldLocs frame_1_writes args s ++ Jvm.arrayLocs frame_1_arrays args s ++ Jvm.staticLocs frame_1_statics s) 8 3136 → Post tb e args s (.returned v) u) :
    ArmFor flags0 classFile x code maxLocals ret World_1 tables_1 room_1 Calls_1 rest_1 Pre_1 Post := by
  intro l hfl _ _ p e ha hc hk s m args below hf hA hF happ hP
  obtain ⟨hcalls, hrest, hpre⟩ := hP
  obtain ⟨-, -, -, hnamed, -, -, -, hat⟩ := (Spec.applies_iff hf).mp happ
  obtain ⟨hg, hn⟩ := and_e (Cond.before_iff.mp (show (Jvm.Cond.and given_1 narrow_1).before args s = true from hpre))
  obtain ⟨g0, hg⟩ := and_e hg
  obtain ⟨g1, hg⟩ := and_e hg
  obtain ⟨w0, w1, rfl⟩ : ∃ w0 w1 : Value, args = #[w0, w1] := by
    have hs : args.size = 2 := by simpa [Cond.value, given_1] using g0
    obtain ⟨L⟩ := args
    match L, hs with
    | [w0, w1], _ => exact ⟨w0, w1, rfl⟩
  have hw := fun d (hd : d ∈ tables_1) => atoms_spec (ws := Jvm.Cond.code x code maxLocals ret :: tables_1) hat d (List.mem_cons_of_mem _ hd)
  obtain ⟨hsets, hown0⟩ := atoms_of _ (rest_1_c_eq ▸ (show rest_1_c.before _ s = true from hrest))
  have hfit : Fit s := fun {y c} hc i hi => by
    obtain ⟨ha, rfl⟩ := Array.getElem?_eq_some_iff.mp hc
    have q := List.all_eq_true.mp ((Array.all_eq_true_iff_forall_mem.mp hF) _ (Array.getElem_mem ha)) i (List.mem_range.mpr hi)
    simpa [Array.getElem?_eq_getElem hi] using q
  obtain ⟨i0, q0⟩ := is_v g1
  obtain rfl : w0 = (.int i0) := Option.some.inj q0
  obtain ⟨i1, q1⟩ := is_v hg
  obtain rfl : w1 = (.int i1) := Option.some.inj q1
  obtain ⟨x0, hn⟩ := and_e hn
  obtain ⟨x1, hn⟩ := and_e hn
  obtain ⟨x2, hn⟩ := and_e hn
  obtain ⟨x3, hn⟩ := and_e hn
  obtain ⟨x4, hn⟩ := and_e hn
  obtain ⟨x5, hn⟩ := and_e hn
  obtain ⟨x6, hn⟩ := and_e hn
  obtain ⟨x7, hn⟩ := and_e hn
  obtain ⟨x8, hn⟩ := and_e hn
  obtain ⟨x9, hn⟩ := and_e hn
  obtain ⟨x10, hn⟩ := and_e hn
  obtain ⟨x11, hn⟩ := and_e hn
  obtain ⟨x12, hn⟩ := and_e hn
  obtain ⟨x13, hn⟩ := and_e hn
  obtain ⟨x14, hn⟩ := and_e hn
  obtain ⟨x15, hn⟩ := and_e hn
  obtain ⟨x16, hn⟩ := and_e hn
  obtain ⟨x17, hn⟩ := and_e hn
  obtain ⟨x18, hn⟩ := and_e hn
  obtain ⟨x19, hn⟩ := and_e hn
  obtain ⟨x20, hn⟩ := and_e hn
  obtain ⟨x21, hn⟩ := and_e hn
  obtain ⟨x22, hn⟩ := and_e hn
  obtain ⟨x23, hn⟩ := and_e hn
  obtain ⟨x24, hn⟩ := and_e hn
  obtain ⟨x25, hn⟩ := and_e hn
  obtain ⟨x26, hn⟩ := and_e hn
  obtain ⟨x27, hn⟩ := and_e hn
  obtain ⟨x28, hn⟩ := and_e hn
  obtain ⟨x29, hn⟩ := and_e hn
  obtain ⟨x30, hn⟩ := and_e hn
  obtain ⟨x31, hn⟩ := and_e hn
  obtain ⟨x32, hn⟩ := and_e hn
  have x33 := hn
  obtain ⟨c_EMAIL, v_c_EMAIL, S_EMAIL, E_c_EMAIL⟩ := own_sta x0 (hw _ (List.mem_of_getElem? (i := 1) rfl)) (hw _ (List.mem_of_getElem? (i := 2) rfl))
  obtain ⟨c_SMS, v_c_SMS, S_SMS, E_c_SMS⟩ := own_sta x13 (hw _ (List.mem_of_getElem? (i := 1) rfl)) (hw _ (List.mem_of_getElem? (i := 55) rfl))
  obtain ⟨l_DE, v_l_DE, S_DE, E_l_DE⟩ := own_sta x8 (hw _ (List.mem_of_getElem? (i := 4) rfl)) (hw _ (List.mem_of_getElem? (i := 52) rfl))
  obtain ⟨l_EN, v_l_EN, S_EN, E_l_EN⟩ := own_sta x1 (hw _ (List.mem_of_getElem? (i := 4) rfl)) (hw _ (List.mem_of_getElem? (i := 5) rfl))
  have F_l_DE := own_fldI v_l_DE x9
  have F_l_EN := own_fldI v_l_EN x4
  obtain ⟨g_EMAIL, v_g_EMAIL, E_g_EMAIL⟩ := own_ref x2
  have G_EMAIL_german := own_fldR v_c_EMAIL v_g_EMAIL
  have C_g_EMAIL := own_fldI v_g_EMAIL x10
  obtain ⟨t_g_EMAIL, v_t_g_EMAIL⟩ := arr_v x11
  have V_g_EMAIL := own_fldR v_g_EMAIL v_t_g_EMAIL
  obtain ⟨cl_g_EMAIL, A_g_EMAIL, lt_g_EMAIL, le_g_EMAIL⟩ := own_arr v_t_g_EMAIL x11 x12
  have B_g_EMAIL : Arv s s.heap t_g_EMAIL cl_g_EMAIL.cls .byte (6 : Int32) [(.int (69 : Int32)), (.int (45 : Int32)), (.int (77 : Int32)), (.int (97 : Int32)), (.int (105 : Int32)), (.int (108 : Int32))] (.int (0 : Int32)) := Arv.start hfit A_g_EMAIL lt_g_EMAIL le_g_EMAIL (by decide) (by decide) ⟨own_el v_t_g_EMAIL A_g_EMAIL x28, own_el v_t_g_EMAIL A_g_EMAIL x29, own_el v_t_g_EMAIL A_g_EMAIL x30, own_el v_t_g_EMAIL A_g_EMAIL x31, own_el v_t_g_EMAIL A_g_EMAIL x32, own_el v_t_g_EMAIL A_g_EMAIL x33, trivial⟩
  obtain ⟨e_EMAIL, v_e_EMAIL, E_e_EMAIL⟩ := own_ref x3
  have G_EMAIL_english := own_fldR v_c_EMAIL v_e_EMAIL
  have C_e_EMAIL := own_fldI v_e_EMAIL x5
  obtain ⟨t_e_EMAIL, v_t_e_EMAIL⟩ := arr_v x6
  have V_e_EMAIL := own_fldR v_e_EMAIL v_t_e_EMAIL
  obtain ⟨cl_e_EMAIL, A_e_EMAIL, lt_e_EMAIL, le_e_EMAIL⟩ := own_arr v_t_e_EMAIL x6 x7
  have B_e_EMAIL : Arv s s.heap t_e_EMAIL cl_e_EMAIL.cls .byte (6 : Int32) [(.int (101 : Int32)), (.int (45 : Int32)), (.int (109 : Int32)), (.int (97 : Int32)), (.int (105 : Int32)), (.int (108 : Int32))] (.int (0 : Int32)) := Arv.start hfit A_e_EMAIL lt_e_EMAIL le_e_EMAIL (by decide) (by decide) ⟨own_el v_t_e_EMAIL A_e_EMAIL x22, own_el v_t_e_EMAIL A_e_EMAIL x23, own_el v_t_e_EMAIL A_e_EMAIL x24, own_el v_t_e_EMAIL A_e_EMAIL x25, own_el v_t_e_EMAIL A_e_EMAIL x26, own_el v_t_e_EMAIL A_e_EMAIL x27, trivial⟩
  obtain ⟨g_SMS, v_g_SMS, E_g_SMS⟩ := own_ref x14
  have G_SMS_german := own_fldR v_c_SMS v_g_SMS
  have C_g_SMS := own_fldI v_g_SMS x16
  obtain ⟨t_g_SMS, v_t_g_SMS⟩ := arr_v x17
  have V_g_SMS := own_fldR v_g_SMS v_t_g_SMS
  obtain ⟨cl_g_SMS, A_g_SMS, lt_g_SMS, le_g_SMS⟩ := own_arr v_t_g_SMS x17 x18
  have B_g_SMS : Arv s s.heap t_g_SMS cl_g_SMS.cls .byte (3 : Int32) [(.int (83 : Int32)), (.int (77 : Int32)), (.int (83 : Int32))] (.int (0 : Int32)) := Arv.start hfit A_g_SMS lt_g_SMS le_g_SMS (by decide) (by decide) ⟨own_el v_t_g_SMS A_g_SMS x19, own_el v_t_g_SMS A_g_SMS x20, own_el v_t_g_SMS A_g_SMS x21, trivial⟩
  have G_SMS_english := own_fldR v_c_SMS (own_eqR v_g_SMS x15)
  have hcw := hsets _ (List.mem_of_getElem? (i := 2) rfl)
  have n5 := not_v (Cond.before_iff.mp hcw)
  obtain ⟨zc, e10⟩ := is_v (Cond.before_iff.mp (hsets _ (List.mem_of_getElem? (i := 1) rfl)))
  have S_CS : Sta s s.heap "java/lang/String" "COMPACT_STRINGS" "Z" (.int zc) := Sta.start e10 (Or.inl (hsets _ (List.mem_of_getElem? (i := 0) rfl)))
  have hzc : ¬ (zc = (0 : Int32)) := gotF (Cond.eq_ints e10 (Term.int_eval (0))) n5
  have hheld : ∀ q ∈ consts_1, Jvm.Lit.constHeld s q.1 q.2 := hcalls.1
  obtain ⟨n, o, h1, h2, h3, v, L, rfl, hP, hq⟩ := rmLaw l s _ hw i0 i1 c_EMAIL S_EMAIL E_c_EMAIL g_EMAIL t_g_EMAIL _ E_g_EMAIL C_g_EMAIL V_g_EMAIL B_g_EMAIL G_EMAIL_german e_EMAIL t_e_EMAIL _ E_e_EMAIL C_e_EMAIL V_e_EMAIL B_e_EMAIL G_EMAIL_english c_SMS S_SMS E_c_SMS g_SMS t_g_SMS _ E_g_SMS C_g_SMS V_g_SMS B_g_SMS G_SMS_german G_SMS_english l_DE S_DE E_l_DE F_l_DE l_EN S_EN E_l_EN F_l_EN zc S_CS hzc hcw hheld p e ha hc hk s m _ below hf ((Spec.applies_iff_loose hf).mp happ).1 ⟨rfl, rfl⟩ trivial
  obtain ⟨rfl, N⟩ := hP
  refine ⟨n, _, h1, h2, h3, hpost _ _ _ _ _ _ ⟨Cond.after_iff.mpr rfl, Cond.after_iff.mpr (eq_i res_at (Term.int_eval (1)) rfl), trivial⟩ ⟨hq.1, hq.2.1, hq.2.2.1, (hq.2.2.2.sift fun y hy => Or.inr (N y hy)).mono (by decide) (by decide)⟩⟩
theorem main_1_1 : Claimed_1_1 := comes_1 fun _ _ _ _ _ _ h hF => ⟨h.1, hF⟩
theorem main_1_2 : Claimed_1_2 := comes_1 fun _ _ _ _ _ _ h hF => ⟨h.2.1, hF⟩
end Jvm.Pilot.@@N@@
namespace Jvm.Pilot.@@N@@
open Jvm Jvm.ClassFile Sem Op Lib Jvm.Free Jvm.Stand Jvm.Pilot.@@N@@.Jvm.D
/-! MADE BY PROGRAM (witnessworld.py) out of the Statement's table words and the real class files: 20 classes; the members and pool entries that the words name. The judged class is class 1, her method 1. -/
namespace start1
open Jvm.ClassFile
def u (s : String) : CpInfo := .utf8 (stringToUtf16 s)
/-- a pool by its gaps: so many unusable entries, then the entry; so many at the end -/
def gap : Nat → List CpInfo → List CpInfo
  | 0, r => r
  | n + 1, r => .unusable :: gap n r
def poolList (es : List (Nat × CpInfo)) (last : Nat) : List CpInfo := es.foldr (fun e r => gap e.1 (e.2 :: r)) (gap last [])
def pool (es : List (Nat × CpInfo)) (last : Nat) : Array CpInfo := ⟨poolList es last⟩
def fileOf (pool : Array CpInfo) (this : Nat) (attrs : Array Attribute := #[]) (ms : Array MethodInfo := #[]) (fl : Nat := 33) (sup : Nat := 0) (ifs : Array Nat := #[]) (fds : Array FieldInfo := #[]) : ClassFile where
  minorVersion := 0
  majorVersion := 65
  constantPool := pool
  accessFlags := fl
  thisClass := this
  superClass := sup
  interfaces := ifs
  fields := fds
  methods := ms
  attributes := attrs
def plain (name : String) (sup : Option ClassId) : Class where
  name := name
  kind := .ordinary
  loader := none
  accessFlags := 33
  super := sup
  interfaces := #[]
  cf := none
  fields := #[]
  methods := #[]
  instanceTypes := #[]
  staticTypes := #[]
  resolved := #[]
  callSites := []
  init := .initialized
  statics := none
  mirror := none

def pool0 : Array CpInfo := pool [(5, u "<init>"), (0, u "()V"), (1, .class_ 10), (1, u "java/lang/Object")] 113

def k0m0 : Method := { name := "<init>", desc := "()V", sig := { parameters := [], returnType := none }, accessFlags := 1, code := none }
/-- java/lang/Object -/
def k0 : Class := { plain "java/lang/Object" none with
  accessFlags := 33
  interfaces := #[]
  cf := some (fileOf pool0 8 #[] #[{ accessFlags := 1, nameIndex := 5, descriptorIndex := 6, attributes := #[] }] 33 0 #[] #[])
  fields := #[]
  methods := #[k0m0]
  instanceTypes := #[]
  staticTypes := #[]
  resolved := Array.replicate 124 none
  statics := none }

def pool1 : Array CpInfo := pool [(2, .class_ 4), (1, u "java/lang/Object"), (0, u "<init>"), (0, u "()V"), (0, .fieldref 8 9), (0, .class_ 10), (0, .nameAndType 11 12), (0, u "einwilligung/ledger/Channel"), (0, u "SMS"), (0, u "Leinwilligung/ledger/Channel;"), (0, .fieldref 8 14), (0, .nameAndType 15 12), (0, u "EMAIL"), (0, .fieldref 17 18), (0, .class_ 19), (0, .nameAndType 20 21), (0, u "einwilligung/wordings/Language"), (0, u "EN"), (0, u "Leinwilligung/wordings/Language;"), (0, .fieldref 17 23), (0, .nameAndType 24 21), (0, u "DE"), (0, .string 11), (0, .string 27), (0, u "e-mail"), (0, .string 29), (0, u "E-Mail"), (0, .methodref 8 31), (0, .nameAndType 32 33), (0, u "label"), (0, u "(Leinwilligung/wordings/Language;)Ljava/lang/String;"), (0, .methodref 35 36), (0, .class_ 37), (0, .nameAndType 38 39), (0, u "java/lang/String"), (0, u "equals"), (0, u "(Ljava/lang/Object;)Z"), (0, .class_ 41), (0, u "einwilligung/ledger/ChannelLabelPinLaw"), (2, u "law"), (0, u "(II)Z")] 3

def k1m0 : Method := { name := "<init>", desc := "()V", sig := { parameters := [], returnType := none }, accessFlags := 1, code := none }
def k1c1 : Code := { maxStack := 2, maxLocals := 8, code := code, exceptionTable := #[], attributes := #[] }
def k1m1 : Method := { name := "law", desc := "(II)Z", sig := { parameters := [.int, .int], returnType := some .boolean }, accessFlags := 9, code := some k1c1 }
/-- einwilligung/ledger/ChannelLabelPinLaw -/
def k1 : Class := { plain "einwilligung/ledger/ChannelLabelPinLaw" (some 0) with
  accessFlags := 49
  interfaces := #[]
  cf := some (fileOf pool1 40 #[] #[{ accessFlags := 1, nameIndex := 5, descriptorIndex := 6, attributes := #[] }, { accessFlags := 9, nameIndex := 44, descriptorIndex := 45, attributes := #[] }] 49 2 #[] #[])
  fields := #[]
  methods := #[k1m0, k1m1]
  instanceTypes := #[]
  staticTypes := #[]
  resolved := Array.replicate 49 none
  statics := none }

def pool2 : Array CpInfo := pool [(1, .class_ 2), (0, u "java/lang/constant/Constable"), (0, .class_ 4), (0, u "java/lang/Object")] 6

/-- java/lang/constant/Constable -/
def k2 : Class := { plain "java/lang/constant/Constable" (some 0) with
  accessFlags := 1537
  interfaces := #[]
  cf := some (fileOf pool2 1 #[] #[] 1537 3 #[] #[])
  fields := #[]
  methods := #[]
  instanceTypes := #[]
  staticTypes := #[]
  resolved := Array.replicate 11 none
  statics := none }

def pool3 : Array CpInfo := pool [(1, .class_ 2), (0, u "java/lang/Comparable"), (0, .class_ 4), (0, u "java/lang/Object")] 7

/-- java/lang/Comparable -/
def k3 : Class := { plain "java/lang/Comparable" (some 0) with
  accessFlags := 1537
  interfaces := #[]
  cf := some (fileOf pool3 1 #[] #[] 1537 3 #[] #[])
  fields := #[]
  methods := #[]
  instanceTypes := #[]
  staticTypes := #[]
  resolved := Array.replicate 12 none
  statics := none }

def pool4 : Array CpInfo := pool [(1, .class_ 2), (0, u "java/io/Serializable"), (0, .class_ 4), (0, u "java/lang/Object")] 2

/-- java/io/Serializable -/
def k4 : Class := { plain "java/io/Serializable" (some 0) with
  accessFlags := 1537
  interfaces := #[]
  cf := some (fileOf pool4 1 #[] #[] 1537 3 #[] #[])
  fields := #[]
  methods := #[]
  instanceTypes := #[]
  staticTypes := #[]
  resolved := Array.replicate 7 none
  statics := none }

def pool5 : Array CpInfo := pool [(2, .class_ 4), (1, u "java/lang/Enum"), (0, u "name"), (0, u "Ljava/lang/String;"), (0, .fieldref 2 8), (0, .nameAndType 9 10), (0, u "ordinal"), (0, u "I"), (1, .class_ 14), (1, u "java/lang/Object"), (4, u "hash"), (86, .class_ 108), (1, u "java/lang/Enum$EnumDesc"), (2, .class_ 112), (0, u "java/lang/constant/Constable"), (0, .class_ 114), (0, u "java/lang/Comparable"), (0, .class_ 116), (0, u "java/io/Serializable"), (9, u "()I")] 77

def k5c0 : Code := { maxStack := 1, maxLocals := 1, code := jdk_37_method_2_code, exceptionTable := #[], attributes := #[] }
def k5m0 : Method := { name := "ordinal", desc := "()I", sig := { parameters := [], returnType := some .int }, accessFlags := 17, code := some k5c0 }
/-- java/lang/Enum -/
def k5 : Class := { plain "java/lang/Enum" (some 0) with
  accessFlags := 1057
  interfaces := #[2, 3, 4]
  cf := some (fileOf pool5 2 #[.nestMembers #[106]] #[{ accessFlags := 17, nameIndex := 9, descriptorIndex := 126, attributes := #[] }] 1057 12 #[111, 113, 115] #[{ accessFlags := 18, nameIndex := 5, descriptorIndex := 6, attributes := #[] }, { accessFlags := 18, nameIndex := 9, descriptorIndex := 10, attributes := #[] }, { accessFlags := 2, nameIndex := 19, descriptorIndex := 10, attributes := #[] }])
  fields := #[{ name := "name", type := (.object "java/lang/String"), accessFlags := 18, slot := 0, constantValue := 0 }, { name := "ordinal", type := .int, accessFlags := 18, slot := 1, constantValue := 0 }, { name := "hash", type := .int, accessFlags := 2, slot := 2, constantValue := 0 }]
  methods := #[k5m0]
  instanceTypes := #[(.object "java/lang/String"), .int, .int]
  staticTypes := #[]
  resolved := Array.replicate 204 none
  statics := none }

def pool6 : Array CpInfo := pool [(2, .class_ 4), (1, u "einwilligung/database/Coded"), (32, .class_ 38), (0, u "java/lang/Object")] 14

/-- einwilligung/database/Coded -/
def k6 : Class := { plain "einwilligung/database/Coded" (some 0) with
  accessFlags := 1537
  interfaces := #[]
  cf := some (fileOf pool6 2 #[] #[] 1537 37 #[] #[])
  fields := #[]
  methods := #[]
  instanceTypes := #[]
  staticTypes := #[]
  resolved := Array.replicate 53 none
  statics := none }

def pool7 : Array CpInfo := pool [(1, .class_ 2), (0, u "einwilligung/ledger/Channel"), (2, u "EMAIL"), (0, u "Leinwilligung/ledger/Channel;"), (2, u "SMS"), (2, u "$VALUES"), (0, u "[Leinwilligung/ledger/Channel;"), (6, .class_ 22), (1, u "java/lang/Enum"), (6, .fieldref 1 30), (0, .nameAndType 31 32), (0, u "german"), (0, u "Ljava/lang/String;"), (0, .fieldref 1 34), (0, .nameAndType 35 32), (0, u "english"), (0, .methodref 37 38), (0, .class_ 39), (0, .nameAndType 40 41), (0, u "einwilligung/wordings/Language"), (0, u "pick"), (0, u "(Ljava/lang/String;Ljava/lang/String;)Ljava/lang/String;"), (13, .class_ 56), (0, u "einwilligung/database/Coded"), (7, u "label"), (0, u "(Leinwilligung/wordings/Language;)Ljava/lang/String;")] 5

def k7c0 : Code := { maxStack := 3, maxLocals := 2, code := prog_27_method_4_code, exceptionTable := #[], attributes := #[] }
def k7m0 : Method := { name := "label", desc := "(Leinwilligung/wordings/Language;)Ljava/lang/String;", sig := { parameters := [(.object "einwilligung/wordings/Language")], returnType := some (.object "java/lang/String") }, accessFlags := 1, code := some k7c0 }
/-- einwilligung/ledger/Channel -/
def k7 : Class := { plain "einwilligung/ledger/Channel" (some 5) with
  accessFlags := 16433
  interfaces := #[6]
  cf := some (fileOf pool7 1 #[] #[{ accessFlags := 1, nameIndex := 64, descriptorIndex := 65, attributes := #[] }] 16433 20 #[55] #[{ accessFlags := 16409, nameIndex := 5, descriptorIndex := 6, attributes := #[] }, { accessFlags := 16409, nameIndex := 9, descriptorIndex := 6, attributes := #[] }, { accessFlags := 18, nameIndex := 31, descriptorIndex := 32, attributes := #[] }, { accessFlags := 18, nameIndex := 35, descriptorIndex := 32, attributes := #[] }, { accessFlags := 4122, nameIndex := 12, descriptorIndex := 13, attributes := #[] }])
  fields := #[{ name := "EMAIL", type := (.object "einwilligung/ledger/Channel"), accessFlags := 16409, slot := 0, constantValue := 0 }, { name := "SMS", type := (.object "einwilligung/ledger/Channel"), accessFlags := 16409, slot := 1, constantValue := 0 }, { name := "german", type := (.object "java/lang/String"), accessFlags := 18, slot := 3, constantValue := 0 }, { name := "english", type := (.object "java/lang/String"), accessFlags := 18, slot := 4, constantValue := 0 }, { name := "$VALUES", type := (.array (.object "einwilligung/ledger/Channel")), accessFlags := 4122, slot := 2, constantValue := 0 }]
  methods := #[k7m0]
  instanceTypes := #[(.object "java/lang/String"), .int, .int, (.object "java/lang/String"), (.object "java/lang/String")]
  staticTypes := #[(.object "einwilligung/ledger/Channel"), (.object "einwilligung/ledger/Channel"), (.array (.object "einwilligung/ledger/Channel"))]
  resolved := Array.replicate 71 none
  statics := some 0 }

def pool8 : Array CpInfo := pool [(1, .class_ 2), (0, u "einwilligung/wordings/Language"), (2, u "DE"), (0, u "Leinwilligung/wordings/Language;"), (2, u "EN"), (2, u "$VALUES"), (0, u "[Leinwilligung/wordings/Language;"), (6, .class_ 22), (1, u "java/lang/Enum"), (16, u "()I"), (9, .methodref 1 50), (0, .nameAndType 51 39), (0, u "ordinal"), (12, .class_ 65), (0, u "einwilligung/database/Coded"), (11, u "pick"), (0, u "(Ljava/lang/String;Ljava/lang/String;)Ljava/lang/String;")] 6

def k8c0 : Code := { maxStack := 4, maxLocals := 3, code := prog_51_method_5_code, exceptionTable := #[], attributes := #[] }
def k8m0 : Method := { name := "pick", desc := "(Ljava/lang/String;Ljava/lang/String;)Ljava/lang/String;", sig := { parameters := [(.object "java/lang/String"), (.object "java/lang/String")], returnType := some (.object "java/lang/String") }, accessFlags := 1, code := some k8c0 }
/-- einwilligung/wordings/Language -/
def k8 : Class := { plain "einwilligung/wordings/Language" (some 5) with
  accessFlags := 16433
  interfaces := #[6]
  cf := some (fileOf pool8 1 #[] #[{ accessFlags := 1, nameIndex := 77, descriptorIndex := 78, attributes := #[] }] 16433 20 #[64] #[{ accessFlags := 16409, nameIndex := 5, descriptorIndex := 6, attributes := #[] }, { accessFlags := 16409, nameIndex := 9, descriptorIndex := 6, attributes := #[] }, { accessFlags := 4122, nameIndex := 12, descriptorIndex := 13, attributes := #[] }])
  fields := #[{ name := "DE", type := (.object "einwilligung/wordings/Language"), accessFlags := 16409, slot := 0, constantValue := 0 }, { name := "EN", type := (.object "einwilligung/wordings/Language"), accessFlags := 16409, slot := 1, constantValue := 0 }, { name := "$VALUES", type := (.array (.object "einwilligung/wordings/Language")), accessFlags := 4122, slot := 2, constantValue := 0 }]
  methods := #[k8m0]
  instanceTypes := #[(.object "java/lang/String"), .int, .int]
  staticTypes := #[(.object "einwilligung/wordings/Language"), (.object "einwilligung/wordings/Language"), (.array (.object "einwilligung/wordings/Language"))]
  resolved := Array.replicate 85 none
  statics := some 1 }

def pool9 : Array CpInfo := pool [(2, .class_ 4), (1, u "java/lang/CharSequence"), (42, .class_ 48), (0, u "java/lang/CharSequence$1CodePointIterator"), (10, .class_ 60), (0, u "java/lang/CharSequence$1CharIterator"), (5, .class_ 67), (0, u "java/lang/Object")] 63

/-- java/lang/CharSequence -/
def k9 : Class := { plain "java/lang/CharSequence" (some 0) with
  accessFlags := 1537
  interfaces := #[]
  cf := some (fileOf pool9 2 #[.nestMembers #[47, 59]] #[] 1537 66 #[] #[])
  fields := #[]
  methods := #[]
  instanceTypes := #[]
  staticTypes := #[]
  resolved := Array.replicate 131 none
  statics := none }

def pool10 : Array CpInfo := pool [(1, .class_ 2), (0, u "java/lang/constant/ConstantDesc"), (0, .class_ 4), (0, u "java/lang/Object")] 32

/-- java/lang/constant/ConstantDesc -/
def k10 : Class := { plain "java/lang/constant/ConstantDesc" (some 0) with
  accessFlags := 1537
  interfaces := #[]
  cf := some (fileOf pool10 1 #[] #[] 1537 3 #[] #[])
  fields := #[]
  methods := #[]
  instanceTypes := #[]
  staticTypes := #[]
  resolved := Array.replicate 37 none
  statics := none }

def pool11 : Array CpInfo := pool [(2, .class_ 4), (1, u "java/lang/Object"), (0, u "<init>"), (0, u "()V"), (2, .fieldref 10 11), (0, .class_ 12), (0, .nameAndType 13 14), (0, u "java/lang/String"), (0, u "value"), (0, u "[B"), (0, .fieldref 10 16), (0, .nameAndType 17 18), (0, u "coder"), (0, u "B"), (2, u "hash"), (0, u "I"), (2, u "hashIsZero"), (0, u "Z"), (11, .fieldref 10 39), (0, .nameAndType 40 26), (0, u "COMPACT_STRINGS"), (66, .class_ 109), (1, u "java/lang/StringLatin1"), (431, .methodref 107 542), (0, .nameAndType 543 544), (0, u "equals"), (0, u "([B[B)Z"), (28, u "(Ljava/lang/Object;)Z"), (1, .class_ 576), (0, u "java/lang/CharSequence"), (22, u "CASE_INSENSITIVE_ORDER"), (0, u "Ljava/util/Comparator;"), (500, u "serialPersistentFields"), (0, u "[Ljava/io/ObjectStreamField;"), (0, .class_ 1104), (0, u "java/lang/String$CaseInsensitiveComparator"), (1, .class_ 1107), (0, u "java/io/Serializable"), (0, .class_ 1109), (0, u "java/lang/Comparable"), (0, .class_ 1111), (0, u "java/lang/constant/Constable"), (0, .class_ 1113), (0, u "java/lang/constant/ConstantDesc"), (2, u "serialVersionUID"), (0, u "J"), (3, u "REPL"), (0, u "C"), (2, u "LATIN1"), (1, u "UTF16")] 323

def k11m0 : Method := { name := "<init>", desc := "()V", sig := { parameters := [], returnType := none }, accessFlags := 1, code := none }
def k11c1 : Code := { maxStack := 2, maxLocals := 3, code := jdk_42_method_66_code, exceptionTable := #[], attributes := #[] }
def k11m1 : Method := { name := "equals", desc := "(Ljava/lang/Object;)Z", sig := { parameters := [(.object "java/lang/Object")], returnType := some .boolean }, accessFlags := 1, code := some k11c1 }
/-- java/lang/String -/
def k11 : Class := { plain "java/lang/String" (some 0) with
  accessFlags := 49
  interfaces := #[4, 3, 9, 2, 10]
  cf := some (fileOf pool11 10 #[.nestMembers #[1103]] #[{ accessFlags := 1, nameIndex := 5, descriptorIndex := 6, attributes := #[] }, { accessFlags := 1, nameIndex := 543, descriptorIndex := 573, attributes := #[] }] 49 2 #[1106, 1108, 575, 1110, 1112] #[{ accessFlags := 18, nameIndex := 13, descriptorIndex := 14, attributes := #[] }, { accessFlags := 18, nameIndex := 17, descriptorIndex := 18, attributes := #[] }, { accessFlags := 2, nameIndex := 21, descriptorIndex := 22, attributes := #[] }, { accessFlags := 2, nameIndex := 25, descriptorIndex := 26, attributes := #[] }, { accessFlags := 26, nameIndex := 1116, descriptorIndex := 1117, attributes := #[] }, { accessFlags := 24, nameIndex := 40, descriptorIndex := 26, attributes := #[] }, { accessFlags := 26, nameIndex := 1101, descriptorIndex := 1102, attributes := #[] }, { accessFlags := 26, nameIndex := 1121, descriptorIndex := 1122, attributes := #[] }, { accessFlags := 25, nameIndex := 599, descriptorIndex := 600, attributes := #[] }, { accessFlags := 24, nameIndex := 1125, descriptorIndex := 18, attributes := #[] }, { accessFlags := 24, nameIndex := 1127, descriptorIndex := 18, attributes := #[] }])
  fields := #[{ name := "value", type := (.array .byte), accessFlags := 18, slot := 0, constantValue := 0 }, { name := "coder", type := .byte, accessFlags := 18, slot := 1, constantValue := 0 }, { name := "hash", type := .int, accessFlags := 2, slot := 2, constantValue := 0 }, { name := "hashIsZero", type := .boolean, accessFlags := 2, slot := 3, constantValue := 0 }, { name := "serialVersionUID", type := .long, accessFlags := 26, slot := 0, constantValue := 0 }, { name := "COMPACT_STRINGS", type := .boolean, accessFlags := 24, slot := 1, constantValue := 0 }, { name := "serialPersistentFields", type := (.array (.object "java/io/ObjectStreamField")), accessFlags := 26, slot := 2, constantValue := 0 }, { name := "REPL", type := .char, accessFlags := 26, slot := 3, constantValue := 0 }, { name := "CASE_INSENSITIVE_ORDER", type := (.object "java/util/Comparator"), accessFlags := 25, slot := 4, constantValue := 0 }, { name := "LATIN1", type := .byte, accessFlags := 24, slot := 5, constantValue := 0 }, { name := "UTF16", type := .byte, accessFlags := 24, slot := 6, constantValue := 0 }]
  methods := #[k11m0, k11m1]
  instanceTypes := #[(.array .byte), .byte, .int, .boolean]
  staticTypes := #[.long, .boolean, (.array (.object "java/io/ObjectStreamField")), .char, (.object "java/util/Comparator"), .byte, .byte]
  resolved := Array.replicate 1451 none
  statics := some 2 }

def pool12 : Array CpInfo := pool [(4, .class_ 6), (1, u "java/lang/Object"), (0, u "<init>"), (0, u "()V"), (5, .class_ 16), (1, u "java/lang/StringLatin1"), (104, u "$assertionsDisabled"), (0, u "Z"), (98, .class_ 223), (1, u "java/lang/StringLatin1$LinesSpliterator"), (57, u "equals"), (0, u "([B[B)Z"), (107, .class_ 391), (0, u "java/lang/StringLatin1$CharsSpliterator")] 3

def k12m0 : Method := { name := "<init>", desc := "()V", sig := { parameters := [], returnType := none }, accessFlags := 0, code := none }
def k12c1 : Code := { maxStack := 3, maxLocals := 3, code := jdk_43_method_13_code, exceptionTable := #[], attributes := #[] }
def k12m1 : Method := { name := "equals", desc := "([B[B)Z", sig := { parameters := [(.array .byte), (.array .byte)], returnType := some .boolean }, accessFlags := 9, code := some k12c1 }
/-- java/lang/StringLatin1 -/
def k12 : Class := { plain "java/lang/StringLatin1" (some 0) with
  accessFlags := 48
  interfaces := #[]
  cf := some (fileOf pool12 14 #[.nestMembers #[390, 221]] #[{ accessFlags := 0, nameIndex := 7, descriptorIndex := 8, attributes := #[] }, { accessFlags := 9, nameIndex := 281, descriptorIndex := 282, attributes := #[] }] 48 4 #[] #[{ accessFlags := 4120, nameIndex := 121, descriptorIndex := 122, attributes := #[] }])
  fields := #[{ name := "$assertionsDisabled", type := .boolean, accessFlags := 4120, slot := 0, constantValue := 0 }]
  methods := #[k12m0, k12m1]
  instanceTypes := #[]
  staticTypes := #[.boolean]
  resolved := Array.replicate 395 none
  statics := none }

def pool13 : Array CpInfo := pool [(2, .class_ 4), (1, u "java/lang/Object"), (0, u "<init>"), (0, u "()V"), (17, .class_ 26), (1, u "jdk/internal/util/Preconditions"), (28, .class_ 56), (0, u "jdk/internal/util/Preconditions$4"), (57, .class_ 115), (0, u "jdk/internal/util/Preconditions$1"), (7, u "SIOOBE_FORMATTER"), (0, u "Ljava/util/function/BiFunction;"), (0, .class_ 126), (0, u "jdk/internal/util/Preconditions$2"), (3, u "AIOOBE_FORMATTER"), (0, .class_ 132), (0, u "jdk/internal/util/Preconditions$3"), (3, u "IOOBE_FORMATTER")] 57

def k13m0 : Method := { name := "<init>", desc := "()V", sig := { parameters := [], returnType := none }, accessFlags := 1, code := none }
/-- jdk/internal/util/Preconditions -/
def k13 : Class := { plain "jdk/internal/util/Preconditions" (some 0) with
  accessFlags := 33
  interfaces := #[]
  cf := some (fileOf pool13 24 #[.nestMembers #[55, 131, 125, 114]] #[{ accessFlags := 1, nameIndex := 5, descriptorIndex := 6, attributes := #[] }] 33 2 #[] #[{ accessFlags := 25, nameIndex := 123, descriptorIndex := 124, attributes := #[] }, { accessFlags := 25, nameIndex := 130, descriptorIndex := 124, attributes := #[] }, { accessFlags := 25, nameIndex := 136, descriptorIndex := 124, attributes := #[] }])
  fields := #[{ name := "SIOOBE_FORMATTER", type := (.object "java/util/function/BiFunction"), accessFlags := 25, slot := 0, constantValue := 0 }, { name := "AIOOBE_FORMATTER", type := (.object "java/util/function/BiFunction"), accessFlags := 25, slot := 1, constantValue := 0 }, { name := "IOOBE_FORMATTER", type := (.object "java/util/function/BiFunction"), accessFlags := 25, slot := 2, constantValue := 0 }]
  methods := #[k13m0]
  instanceTypes := #[]
  staticTypes := #[(.object "java/util/function/BiFunction"), (.object "java/util/function/BiFunction"), (.object "java/util/function/BiFunction")]
  resolved := Array.replicate 194 none
  statics := some 3 }

def pool14 : Array CpInfo := pool [(9, u "<init>"), (6, .class_ 18), (1, u "java/lang/Object"), (0, u "()V"), (1, .class_ 23), (1, u "jdk/internal/util/ArraysSupport"), (0, u "LOG2_ARRAY_LONG_INDEX_SCALE"), (0, u "I"), (2, u "U"), (0, u "Ljdk/internal/misc/Unsafe;"), (8, u "BIG_ENDIAN"), (0, u "Z"), (8, u "LOG2_BYTE_BIT_SIZE"), (4, u "LOG2_ARRAY_INT_INDEX_SCALE"), (54, u "JLA"), (0, u "Ljdk/internal/access/JavaLangAccess;"), (11, u "LOG2_ARRAY_BOOLEAN_INDEX_SCALE"), (9, u "LOG2_ARRAY_BYTE_INDEX_SCALE"), (5, u "LOG2_ARRAY_CHAR_INDEX_SCALE"), (5, u "LOG2_ARRAY_SHORT_INDEX_SCALE"), (18, u "LOG2_ARRAY_FLOAT_INDEX_SCALE"), (24, u "LOG2_ARRAY_DOUBLE_INDEX_SCALE"), (89, u "T_BOOLEAN"), (2, u "T_CHAR"), (1, u "T_FLOAT"), (1, u "T_DOUBLE"), (1, u "T_BYTE"), (1, u "T_SHORT"), (1, u "T_INT"), (1, u "T_LONG"), (1, u "SOFT_MAX_ARRAY_LENGTH")] 83

def k14m0 : Method := { name := "<init>", desc := "()V", sig := { parameters := [], returnType := none }, accessFlags := 2, code := none }
/-- jdk/internal/util/ArraysSupport -/
def k14 : Class := { plain "jdk/internal/util/ArraysSupport" (some 0) with
  accessFlags := 33
  interfaces := #[]
  cf := some (fileOf pool14 21 #[] #[{ accessFlags := 2, nameIndex := 9, descriptorIndex := 19, attributes := #[] }] 33 16 #[] #[{ accessFlags := 24, nameIndex := 28, descriptorIndex := 29, attributes := #[] }, { accessFlags := 26, nameIndex := 38, descriptorIndex := 39, attributes := #[] }, { accessFlags := 25, nameIndex := 121, descriptorIndex := 25, attributes := #[] }, { accessFlags := 25, nameIndex := 131, descriptorIndex := 25, attributes := #[] }, { accessFlags := 25, nameIndex := 137, descriptorIndex := 25, attributes := #[] }, { accessFlags := 25, nameIndex := 143, descriptorIndex := 25, attributes := #[] }, { accessFlags := 25, nameIndex := 53, descriptorIndex := 25, attributes := #[] }, { accessFlags := 25, nameIndex := 24, descriptorIndex := 25, attributes := #[] }, { accessFlags := 25, nameIndex := 162, descriptorIndex := 25, attributes := #[] }, { accessFlags := 25, nameIndex := 187, descriptorIndex := 25, attributes := #[] }, { accessFlags := 26, nameIndex := 48, descriptorIndex := 25, attributes := #[] }, { accessFlags := 25, nameIndex := 277, descriptorIndex := 25, attributes := #[] }, { accessFlags := 25, nameIndex := 280, descriptorIndex := 25, attributes := #[] }, { accessFlags := 25, nameIndex := 282, descriptorIndex := 25, attributes := #[] }, { accessFlags := 25, nameIndex := 284, descriptorIndex := 25, attributes := #[] }, { accessFlags := 25, nameIndex := 286, descriptorIndex := 25, attributes := #[] }, { accessFlags := 25, nameIndex := 288, descriptorIndex := 25, attributes := #[] }, { accessFlags := 25, nameIndex := 290, descriptorIndex := 25, attributes := #[] }, { accessFlags := 25, nameIndex := 292, descriptorIndex := 25, attributes := #[] }, { accessFlags := 26, nameIndex := 108, descriptorIndex := 109, attributes := #[] }, { accessFlags := 25, nameIndex := 294, descriptorIndex := 25, attributes := #[] }])
  fields := #[{ name := "U", type := (.object "jdk/internal/misc/Unsafe"), accessFlags := 24, slot := 0, constantValue := 0 }, { name := "BIG_ENDIAN", type := .boolean, accessFlags := 26, slot := 1, constantValue := 0 }, { name := "LOG2_ARRAY_BOOLEAN_INDEX_SCALE", type := .int, accessFlags := 25, slot := 2, constantValue := 0 }, { name := "LOG2_ARRAY_BYTE_INDEX_SCALE", type := .int, accessFlags := 25, slot := 3, constantValue := 0 }, { name := "LOG2_ARRAY_CHAR_INDEX_SCALE", type := .int, accessFlags := 25, slot := 4, constantValue := 0 }, { name := "LOG2_ARRAY_SHORT_INDEX_SCALE", type := .int, accessFlags := 25, slot := 5, constantValue := 0 }, { name := "LOG2_ARRAY_INT_INDEX_SCALE", type := .int, accessFlags := 25, slot := 6, constantValue := 0 }, { name := "LOG2_ARRAY_LONG_INDEX_SCALE", type := .int, accessFlags := 25, slot := 7, constantValue := 0 }, { name := "LOG2_ARRAY_FLOAT_INDEX_SCALE", type := .int, accessFlags := 25, slot := 8, constantValue := 0 }, { name := "LOG2_ARRAY_DOUBLE_INDEX_SCALE", type := .int, accessFlags := 25, slot := 9, constantValue := 0 }, { name := "LOG2_BYTE_BIT_SIZE", type := .int, accessFlags := 26, slot := 10, constantValue := 0 }, { name := "T_BOOLEAN", type := .int, accessFlags := 25, slot := 11, constantValue := 0 }, { name := "T_CHAR", type := .int, accessFlags := 25, slot := 12, constantValue := 0 }, { name := "T_FLOAT", type := .int, accessFlags := 25, slot := 13, constantValue := 0 }, { name := "T_DOUBLE", type := .int, accessFlags := 25, slot := 14, constantValue := 0 }, { name := "T_BYTE", type := .int, accessFlags := 25, slot := 15, constantValue := 0 }, { name := "T_SHORT", type := .int, accessFlags := 25, slot := 16, constantValue := 0 }, { name := "T_INT", type := .int, accessFlags := 25, slot := 17, constantValue := 0 }, { name := "T_LONG", type := .int, accessFlags := 25, slot := 18, constantValue := 0 }, { name := "JLA", type := (.object "jdk/internal/access/JavaLangAccess"), accessFlags := 26, slot := 19, constantValue := 0 }, { name := "SOFT_MAX_ARRAY_LENGTH", type := .int, accessFlags := 25, slot := 20, constantValue := 0 }]
  methods := #[k14m0]
  instanceTypes := #[]
  staticTypes := #[(.object "jdk/internal/misc/Unsafe"), .boolean, .int, .int, .int, .int, .int, .int, .int, .int, .int, .int, .int, .int, .int, .int, .int, .int, .int, (.object "jdk/internal/access/JavaLangAccess"), .int]
  resolved := Array.replicate 378 none
  statics := none }

def pool15 : Array CpInfo := pool [(1, u "java/lang/Cloneable"), (0, .class_ 1), (0, u "java/lang/Object"), (0, .class_ 3)] 3

/-- java/lang/Cloneable -/
def k15 : Class := { plain "java/lang/Cloneable" (some 0) with
  accessFlags := 1537
  interfaces := #[]
  cf := some (fileOf pool15 2 #[] #[] 1537 4 #[] #[])
  fields := #[]
  methods := #[]
  instanceTypes := #[]
  staticTypes := #[]
  resolved := Array.replicate 8 none
  statics := none }

/-- the primitive byte -/
def k16 : Class := { plain "byte" none with kind := .primitive 'B', accessFlags := 0x411 }
/-- [B -/
def k17 : Class := { plain "[B" (some 0) with kind := .array 16 .byte, interfaces := #[15, 4], accessFlags := 1041 }

/-- the primitive int -/
def k18 : Class := { plain "int" none with kind := .primitive 'I', accessFlags := 0x411 }
/-- [I -/
def k19 : Class := { plain "[I" (some 0) with kind := .array 18 .int, interfaces := #[15, 4], accessFlags := 1041 }

def heap : Heap := #[{ cls := 7, slots := #[.ref 10, .ref 11, .null], vm := .statics 7 },
  { cls := 8, slots := #[.ref 12, .ref 13, .null], vm := .statics 8 },
  { cls := 11, slots := #[.long 0, .int 1, .null, .int 0, .null, .int 0, .int 0], vm := .statics 11 },
  { cls := 13, slots := #[.null, .null, .null], vm := .statics 13 },
  { cls := 17, slots := #[.int 69, .int 45, .int 77, .int 97, .int 105, .int 108], vm := .none },
  { cls := 17, slots := #[.int 101, .int 45, .int 109, .int 97, .int 105, .int 108], vm := .none },
  { cls := 17, slots := #[.int 83, .int 77, .int 83], vm := .none },
  { cls := 11, slots := #[.ref 4, .int 0, .int 0, .int 0], vm := .none },
  { cls := 11, slots := #[.ref 5, .int 0, .int 0, .int 0], vm := .none },
  { cls := 11, slots := #[.ref 6, .int 0, .int 0, .int 0], vm := .none },
  { cls := 7, slots := #[.null, .int 0, .int 0, .ref 7, .ref 8], vm := .none },
  { cls := 7, slots := #[.null, .int 1, .int 0, .ref 9, .ref 9], vm := .none },
  { cls := 8, slots := #[.null, .int 0, .int 0], vm := .none },
  { cls := 8, slots := #[.null, .int 1, .int 0], vm := .none }]
def classes : Array Class := #[k0, k1, k2, k3, k4, k5, k6, k7, k8, k9, k10, k11, k12, k13, k14, k15, k16, k17, k18, k19]
def interned : List (Array UInt16 × Addr) := []
def slotsUsed : Nat := 59
def theMethod : MethodId := ⟨1, 1⟩
def args0 : Array Value := #[.int 5, .int 6]
def aboutOver (below : List Frame) : State where
  vm := { classes := classes, interned := interned.toArray }
  heap := heap
  slotsUsed := slotsUsed
  threads := #[{ frames := .invoking theMethod args0 :: below }]
def below0 : List Frame := [.native { method := ⟨0, 0⟩, args := #[] }]
def about1 : State := aboutOver below0
def p0 : Program := .bare "" "" ""
def e0 : Env := launch0.env 0 0 0
theorem w_frames : about1.frames = Frame.invoking theMethod args0 :: below0 := rfl
set_option maxRecDepth 65536 in
theorem w_args : argsFit about1.vm theMethod args0 = true := by decide +kernel
set_option maxRecDepth 65536 in
theorem w_heap : heapFits about1 = true := by decide +kernel
set_option maxRecDepth 65536 in
theorem w_runnable : about1.curStatus? = some .runnable := by decide +kernel
set_option maxRecDepth 65536 in
theorem w_alone : about1.alone = true := by decide +kernel
set_option maxRecDepth 65536 in
theorem w_named : about1.methodNamed? x = some theMethod := by decide +kernel
set_option maxRecDepth 65536 in
theorem w_hears : about1.hears theMethod below0 = true := by decide +kernel
set_option maxRecDepth 65536 in
theorem w_ripe : about1.ripe theMethod args0 below0 = true := by decide +kernel
theorem w_running : about1.status = .running := rfl
set_option maxRecDepth 65536 in
theorem w_room : about1.hasRoom e0.platform room_1 = true :=
  launch0.hasRoom_least _ room_1 (by decide +kernel) (by decide +kernel) (by decide +kernel) (by decide +kernel) (by decide +kernel) (by decide +kernel)
theorem allAtoms_all (ts : List Jvm.Cond) (a : Array Jvm.Value) (st : Jvm.State) : (allAtoms ts).before a st = ts.all (fun c => c.before a st) := by
  induction ts with
  | nil => rfl
  | cons c t ih =>
    show (Jvm.Cond.and c (allAtoms t)).before a st = _
    rw [Jvm.Cond.before_and, ih, List.all_cons]
def words1 : List Jvm.Cond := Jvm.Cond.code x code maxLocals ret :: tables_1
/-- a 'code' word, met by the world's own term for the bytes: nothing is compared byte by byte -/
theorem code_word {y : MethodName} {bytes : ByteArray} {mx : Nat} {rt : Option FieldType} {a : Array Value} {s : State} {m : MethodId} {meth : Method} {c : Code} (h1 : s.methodNamed? y = some m) (h2 : s.vm.method? m = some meth) (h3 : meth.code = some c) (h4 : c.code = bytes)
    (h5 : (c.maxLocals == mx && c.exceptionTable.isEmpty && decide (c.maxStack ≤ mostOperands) && decide (meth.sig.returnType = rt) && !meth.locks && decide (parseMethodDescriptor y.desc = some meth.sig)) = true) : (Jvm.Cond.code y bytes mx rt).before a s = true := by
  simp only [Bool.and_eq_true, beq_iff_eq, Bool.not_eq_true', decide_eq_true_eq] at h5
  obtain ⟨⟨⟨⟨⟨g1, g2⟩, g3⟩, g4⟩, g5⟩, g6⟩ := h5
  simp [Cond.before, Cond.holds, Cond.value, h1, h2, h3, h4, g1, g2, g3, g4, g5, g6]
def isCode : Jvm.Cond → Bool
  | .code _ _ _ _ => true
  | _ => false
theorem all_split {L : List Jvm.Cond} {P : Jvm.Cond → Bool} (h1 : L.all (fun c => isCode c || P c) = true) (h2 : ∀ c ∈ L.filter isCode, P c = true) : L.all P = true := by
  refine List.all_eq_true.mpr fun c hc => ?_
  have h := List.all_eq_true.mp h1 c hc
  rcases Bool.eq_false_or_eq_true (isCode c) with hi | hi
  · exact h2 c (List.mem_filter.mpr ⟨hc, hi⟩)
  · simpa [hi] using h
set_option maxRecDepth 65536 in
theorem w_c0 : (Jvm.Cond.code x code maxLocals ret).before args0 about1 = true := code_word (m := ⟨1, 1⟩) (meth := k1m1) (c := k1c1) (by decide +kernel) rfl rfl rfl (by decide +kernel)
set_option maxRecDepth 65536 in
theorem w_c1 : (Jvm.Cond.code ({ cls := "einwilligung/ledger/Channel", name := "label", desc := "(Leinwilligung/wordings/Language;)Ljava/lang/String;" } : Jvm.MethodName) prog_27_method_4_code (2 : Nat) (Option.some (Jvm.ClassFile.FieldType.object "java/lang/String"))).before args0 about1 = true := code_word (m := ⟨7, 0⟩) (meth := k7m0) (c := k7c0) (by decide +kernel) rfl rfl rfl (by decide +kernel)
set_option maxRecDepth 65536 in
theorem w_c2 : (Jvm.Cond.code ({ cls := "einwilligung/wordings/Language", name := "pick", desc := "(Ljava/lang/String;Ljava/lang/String;)Ljava/lang/String;" } : Jvm.MethodName) prog_51_method_5_code (3 : Nat) (Option.some (Jvm.ClassFile.FieldType.object "java/lang/String"))).before args0 about1 = true := code_word (m := ⟨8, 0⟩) (meth := k8m0) (c := k8c0) (by decide +kernel) rfl rfl rfl (by decide +kernel)
set_option maxRecDepth 65536 in
theorem w_c3 : (Jvm.Cond.code ({ cls := "java/lang/Enum", name := "ordinal", desc := "()I" } : Jvm.MethodName) jdk_37_method_2_code (1 : Nat) (Option.some Jvm.ClassFile.FieldType.int)).before args0 about1 = true := code_word (m := ⟨5, 0⟩) (meth := k5m0) (c := k5c0) (by decide +kernel) rfl rfl rfl (by decide +kernel)
set_option maxRecDepth 65536 in
theorem w_c4 : (Jvm.Cond.code ({ cls := "java/lang/String", name := "equals", desc := "(Ljava/lang/Object;)Z" } : Jvm.MethodName) jdk_42_method_66_code (3 : Nat) (Option.some Jvm.ClassFile.FieldType.boolean)).before args0 about1 = true := code_word (m := ⟨11, 1⟩) (meth := k11m1) (c := k11c1) (by decide +kernel) rfl rfl rfl (by decide +kernel)
set_option maxRecDepth 65536 in
theorem w_c5 : (Jvm.Cond.code ({ cls := "java/lang/StringLatin1", name := "equals", desc := "([B[B)Z" } : Jvm.MethodName) jdk_43_method_13_code (3 : Nat) (Option.some Jvm.ClassFile.FieldType.boolean)).before args0 about1 = true := code_word (m := ⟨12, 1⟩) (meth := k12m1) (c := k12c1) (by decide +kernel) rfl rfl rfl (by decide +kernel)
def codes1 : List Jvm.Cond := [Jvm.Cond.code x code maxLocals ret, Jvm.Cond.code ({ cls := "einwilligung/ledger/Channel", name := "label", desc := "(Leinwilligung/wordings/Language;)Ljava/lang/String;" } : Jvm.MethodName) prog_27_method_4_code (2 : Nat) (Option.some (Jvm.ClassFile.FieldType.object "java/lang/String")), Jvm.Cond.code ({ cls := "einwilligung/wordings/Language", name := "pick", desc := "(Ljava/lang/String;Ljava/lang/String;)Ljava/lang/String;" } : Jvm.MethodName) prog_51_method_5_code (3 : Nat) (Option.some (Jvm.ClassFile.FieldType.object "java/lang/String")), Jvm.Cond.code ({ cls := "java/lang/Enum", name := "ordinal", desc := "()I" } : Jvm.MethodName) jdk_37_method_2_code (1 : Nat) (Option.some Jvm.ClassFile.FieldType.int), Jvm.Cond.code ({ cls := "java/lang/String", name := "equals", desc := "(Ljava/lang/Object;)Z" } : Jvm.MethodName) jdk_42_method_66_code (3 : Nat) (Option.some Jvm.ClassFile.FieldType.boolean), Jvm.Cond.code ({ cls := "java/lang/StringLatin1", name := "equals", desc := "([B[B)Z" } : Jvm.MethodName) jdk_43_method_13_code (3 : Nat) (Option.some Jvm.ClassFile.FieldType.boolean)]
set_option maxRecDepth 65536 in
theorem codes_eq : words1.filter isCode = codes1 := rfl
theorem w_codes : ∀ c ∈ words1.filter isCode, c.before args0 about1 = true := by
  rw [codes_eq]
  intro c hc
  simp only [codes1, List.mem_cons, List.not_mem_nil, or_false] at hc
  rcases hc with rfl | rfl | rfl | rfl | rfl | rfl
  · exact w_c0
  · exact w_c1
  · exact w_c2
  · exact w_c3
  · exact w_c4
  · exact w_c5
set_option maxRecDepth 65536 in
theorem w_t1 : (words1.take 24).all (fun c => isCode c || c.before args0 about1) = true := by decide +kernel
set_option maxRecDepth 65536 in
theorem w_t2 : ((words1.drop 24).take 24).all (fun c => isCode c || c.before args0 about1) = true := by decide +kernel
set_option maxRecDepth 65536 in
theorem w_t3 : ((words1.drop 24).drop 24).all (fun c => isCode c || c.before args0 about1) = true := by decide +kernel
theorem w_tables : (allAtoms (Jvm.Cond.code x code maxLocals ret :: tables_1)).before args0 about1 = true := by
  rw [allAtoms_all]
  show words1.all (fun c => c.before args0 about1) = true
  refine all_split ?_ w_codes
  rw [← List.take_append_drop 24 words1, List.all_append, w_t1, ← List.take_append_drop 24 (words1.drop 24), List.all_append, w_t2, w_t3]
  rfl
set_option maxRecDepth 65536 in
theorem w_rest : rest_1_c.before args0 about1 = true := by decide +kernel
set_option maxRecDepth 65536 in
theorem w_case : (Jvm.Cond.and given_1 narrow_1).before args0 about1 = true := by decide +kernel
set_option maxRecDepth 65536 in
theorem w_consts : constsHeld consts_1 about1 := Jvm.Lit.constsHeldB_iff.mp (by decide +kernel)
theorem w_applies : (headSpec (Jvm.Cond.code x code maxLocals ret :: tables_1) room_1).applies x e0.platform about1 = true :=
  (Spec.applies_iff w_frames).mpr ⟨w_running, w_runnable, w_alone, w_named, w_hears, w_ripe, w_room, w_tables⟩
theorem atStart : AtStart classFile x code maxLocals ret World_1 tables_1 room_1 Calls_1 rest_1 Pre_1 launch0 p0 e0 about1 theMethod args0 below0 :=
  ⟨lists_1, trivial, launch0.admits_env _ _ _, launch0.least_env, fairChoices_fair.cas, fairChoices_fair.clock, w_frames, w_args, w_heap, w_applies, ⟨w_consts, trivial⟩, w_rest, w_case⟩
end start1
theorem witness_1 : WitnessClaimed_1 := ⟨start1.p0, start1.e0, start1.about1, start1.theMethod, start1.args0, start1.below0, start1.atStart⟩
end Jvm.Pilot.@@N@@
