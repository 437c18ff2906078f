import JvmDerived
import JvmDerived.Pilot.@@N@@Statement
import JvmDerived.Pilot.@@N@@Code
set_option linter.unusedVariables false
set_option linter.unusedSimpArgs false
namespace Jvm.Pilot.@@N@@
open Jvm Jvm.ClassFile Sem Op Lib Jvm.Free Jvm.Stand Jvm.LawKit Jvm.RoadKit Bundle Jvm.Pilot.@@N@@.Jvm.D
/-! GoKit: a walk told forwards. Go: from this frame on the method comes to its end as Q says; Does: what a call of a method does (over the library's MetFree). -/
section GoKit
variable {p : Program} {l : Launch} {e : Env} {R : Room} {s : State} {m : MethodId} {args : Array Value} {below : List Frame} {meth : Method} {c : Code} {T T' : State} {locs : List Loc} {cells slots : Nat} {Z : State} {a0 : Array Value} {h : Heap} {g g' : JFrame} {Q : Outcome → State → Prop}
def Go (p : Program) (e : Env) (below : List Frame) (Q : Outcome → State → Prop) (T : State) (g : JFrame) : Prop :=
  ∃ s₂ o, Steps p.tables e below (T.setTop g) s₂ ∧ s₂.status = .running ∧ Ended s₂ below o ∧ Q o s₂
theorem Go.st (k : ∀ target, Steps p.tables e below (T'.setTop g') target → Steps p.tables e below (T.setTop g) target) (H : Go p e below Q T' g') : Go p e below Q T g := by
  obtain ⟨s₂, o, h1, r⟩ := H; exact ⟨s₂, o, k _ h1, r⟩
theorem Go.eq (q : g = g') (H : Go p e below Q T g') : Go p e below Q T g := q ▸ H
def Ends (s : State) (k n : Nat) (P : Option Value → Heap → List Loc → Prop) : Outcome → State → Prop :=
  fun o U' => ∃ v L, o = .returned v ∧ P v U'.heap L ∧ FrameEnd s o U' L k n
theorem Go.ret (X : Stand p l e R s m args below meth c T locs cells slots) (hx : p.tables.exec = Jvm.exec) (hlk : meth.locks = false) {pc : Nat} {Ls : Array Slot} {w : Value} {t : FieldType} {i : Instr} {rest : List Value} {P : Option Value → Heap → List Loc → Prop} {k n : Nat}
    (hret : meth.sig.returnType = some t) (hn : narrow t w = w)
    (hi : (i = .ireturn ∧ (t = .int ∨ t = .boolean ∨ t = .byte ∨ t = .char ∨ t = .short) ∧ ∃ z, w = .int z) ∨ (i = .lreturn ∧ t = .long ∧ ∃ z, w = .long z) ∨ (i = .dreturn ∧ t = .double ∧ ∃ z, w = .double z) ∨ (i = .freturn ∧ t = .float ∧ ∃ z, w = .float z) ∨ (i = .areturn ∧ t.isReference = true ∧ w.isRef = true))
    (hd : decode c.code pc = .ok (i, 1)) (hk : cells ≤ k) (hs : slots ≤ n) (hP : P (some w) T.heap locs) : Go p e below (Ends s k n P) T (mkF m pc Ls (w :: rest)) := by
  obtain ⟨fs, hr, hrun, hended, hW, hsame⟩ := X.leave (v := some w) (fun h => by rw [hret] at h; cases h) hlk
  exact ⟨_, _, retOut X hx hret hn hi hd hr, hrun, hended, _, _, rfl, hP, ⟨_, rfl⟩, hW, hsame.mono hk hs⟩
theorem Go.retV (X : Stand p l e R s m args below meth c T locs cells slots) (hx : p.tables.exec = Jvm.exec) (hlk : meth.locks = false) {pc : Nat} {Ls : Array Slot} {P : Option Value → Heap → List Loc → Prop} {k n : Nat}
    (hret : meth.sig.returnType = none) (hd : decode c.code pc = .ok (.return_, 1)) (hk : cells ≤ k) (hs : slots ≤ n) (hP : P none T.heap locs) : Go p e below (Ends s k n P) T (mkF m pc Ls []) := by
  obtain ⟨fs, hr, hrun, hended, hW, hsame⟩ := X.leave (v := none) (fun _ => rfl) hlk
  exact ⟨_, _, X.returnOut hx hret hd hr, hrun, hended, _, _, rfl, hP, ⟨_, rfl⟩, hW, hsame.mono hk hs⟩
theorem Go.retZ (X : Stand p l e R s m args below meth c T locs cells slots) (hx : p.tables.exec = Jvm.exec) (hlk : meth.locks = false) {pc : Nat} {Ls : Array Slot} {z : Int32} {rest : List Value} {P : Option Value → Heap → List Loc → Prop} {k n : Nat}
    (hret : meth.sig.returnType = some .boolean) (hn : narrow .boolean (.int z) = .int z) (hd : decode c.code pc = .ok (.ireturn, 1)) (hk : cells ≤ k) (hs : slots ≤ n) (hP : P (some (.int z)) T.heap locs) : Go p e below (Ends s k n P) T (mkF m pc Ls (.int z :: rest)) :=
  Go.ret X hx hlk hret hn (Or.inl ⟨rfl, Or.inr (Or.inl rfl), z, rfl⟩) hd hk hs hP
theorem Go.retC (X : Stand p l e R s m args below meth c T locs cells slots) (hx : p.tables.exec = Jvm.exec) (hlk : meth.locks = false) {pc : Nat} {Ls : Array Slot} {z : Int32} {rest : List Value} {P : Option Value → Heap → List Loc → Prop} {k n : Nat}
    (hret : meth.sig.returnType = some .char) (hn : narrow .char (.int z) = .int z) (hd : decode c.code pc = .ok (.ireturn, 1)) (hk : cells ≤ k) (hs : slots ≤ n) (hP : P (some (.int z)) T.heap locs) : Go p e below (Ends s k n P) T (mkF m pc Ls (.int z :: rest)) :=
  Go.ret X hx hlk hret hn (Or.inl ⟨rfl, Or.inr (Or.inr (Or.inr (Or.inl rfl))), z, rfl⟩) hd hk hs hP
theorem Go.retI (X : Stand p l e R s m args below meth c T locs cells slots) (hx : p.tables.exec = Jvm.exec) (hlk : meth.locks = false) {pc : Nat} {Ls : Array Slot} {z : Int32} {rest : List Value} {P : Option Value → Heap → List Loc → Prop} {k n : Nat}
    (hret : meth.sig.returnType = some .int) (hd : decode c.code pc = .ok (.ireturn, 1)) (hk : cells ≤ k) (hs : slots ≤ n) (hP : P (some (.int z)) T.heap locs) : Go p e below (Ends s k n P) T (mkF m pc Ls (.int z :: rest)) :=
  Go.ret X hx hlk hret rfl (Or.inl ⟨rfl, Or.inl rfl, z, rfl⟩) hd hk hs hP
theorem Go.retJ (X : Stand p l e R s m args below meth c T locs cells slots) (hx : p.tables.exec = Jvm.exec) (hlk : meth.locks = false) {pc : Nat} {Ls : Array Slot} {z : Int64} {rest : List Value} {P : Option Value → Heap → List Loc → Prop} {k n : Nat}
    (hret : meth.sig.returnType = some .long) (hd : decode c.code pc = .ok (.lreturn, 1)) (hk : cells ≤ k) (hs : slots ≤ n) (hP : P (some (.long z)) T.heap locs) : Go p e below (Ends s k n P) T (mkF m pc Ls (.long z :: rest)) :=
  Go.ret X hx hlk hret rfl (Or.inr (Or.inl ⟨rfl, rfl, z, rfl⟩)) hd hk hs hP
theorem Go.retA (X : Stand p l e R s m args below meth c T locs cells slots) (hx : p.tables.exec = Jvm.exec) (hlk : meth.locks = false) {pc : Nat} {Ls : Array Slot} {w : Value} {t : FieldType} {rest : List Value} {P : Option Value → Heap → List Loc → Prop} {k n : Nat}
    (hret : meth.sig.returnType = some t) (ht : t.isReference = true) (hw : w.isRef = true) (hn : narrow t w = w) (hd : decode c.code pc = .ok (.areturn, 1)) (hk : cells ≤ k) (hs : slots ≤ n) (hP : P (some w) T.heap locs) : Go p e below (Ends s k n P) T (mkF m pc Ls (w :: rest)) :=
  Go.ret X hx hlk hret hn (Or.inr (Or.inr (Or.inr (Or.inr ⟨rfl, ht, hw⟩)))) hd hk hs hP
/-- what a call does: the arguments, the heap before, and P: what it returns, the heap behind, the places written -/
def Does (l : Launch) (Z : State) (y : MethodName) (bytes : ByteArray) (maxL : Nat) (ret : Option FieldType) (ws : List Jvm.Cond) (rm : Room) (as' : Array Value) (h : Heap) (P : Option Value → Heap → List Loc → Prop) : Prop :=
  MetFree l y (head1 (Jvm.Cond.code y bytes maxL ret :: ws) rm) (fun a U => a = as' ∧ Z.Warmed39 U.vm ∧ U.heap = h) (fun _ _ _ _ _ => True) (fun _ U o U' => ∃ v L, o = .returned v ∧ P v U'.heap L ∧ FrameEnd U o U' L rm.cells rm.slots)
theorem Does.intro {y : MethodName} {bytes : ByteArray} {maxL : Nat} {ret : Option FieldType} {ws : List Jvm.Cond} {rm : Room} {as' : Array Value} {P : Option Value → Heap → List Loc → Prop} {Ls : Array Slot} (hpn : plainName y.cls = true) (hef : ∀ m, entryFrame m as' maxL = mkF m 0 Ls [])
    (body : ∀ (p : Program) (e : Env) (s : State) (m : MethodId) (below : List Frame) (meth : Method) (c : Code) (s₁ : State), p.tables.exec = Jvm.exec → c.code = bytes → c.maxLocals = maxL → s.vm.findClass y.cls = some m.cls → meth.name = y.name → meth.sig.returnType = ret → meth.locks = false →
      Z.Warmed39 s.vm → s₁.heap = h → Stand p l e rm s m as' below meth c s₁ [] 0 0 → Go p e below (Ends s rm.cells rm.slots P) s₁ (mkF m 0 Ls [])) : Does l Z y bytes maxL ret ws rm as' h P := by
  refine MetFree.of_bodySF (plainFor_of_name hpn) hisR ?_
  intro p e s m args below meth c s₁ Bd hml0 hP hK
  obtain ⟨rfl, hZ, hh⟩ := hP
  have := body p e s m below meth c s₁ Bd.exec Bd.bytes hml0 (findClass_of_methodNamed Bd.named) (name_of_methodNamed Bd.named Bd.method).1 Bd.returns Bd.notSynchronized hZ (by rw [← hh, Bd.state]; rfl) (Stand.of_body Bd)
  obtain ⟨s₂, o, h1, h2, h3, h4⟩ := this
  exact ⟨s₂, o, castTop (hef m) h1, h2, h3, h4⟩
theorem Does.mono {y : MethodName} {bytes : ByteArray} {maxL : Nat} {ret : Option FieldType} {ws : List Jvm.Cond} {rm : Room} {as' : Array Value} {P P' : Option Value → Heap → List Loc → Prop} (D : Does l Z y bytes maxL ret ws rm as' h P) (q : ∀ v h' L, P v h' L → P' v h' L) : Does l Z y bytes maxL ret ws rm as' h P' := by
  intro p e ha hc hk s m args below hf happ hP hK
  obtain ⟨n, o, h1, h2, h3, v, L, h4, h5, h6⟩ := D p e ha hc hk s m args below hf happ hP hK
  exact ⟨n, o, h1, h2, h3, v, L, h4, q _ _ _ h5, h6⟩
theorem Does.static {y : MethodName} {bytes : ByteArray} {maxL : Nat} {ret : Option FieldType} {rm : Room} {P : Option Value → Heap → List Loc → Prop} {own : String} {index : Nat} {argsL rest : List Value} (D : Does l Z y bytes maxL ret [] rm argsL.toArray h P)
    (X : Stand p l e R s m args below meth c T locs cells slots) (hx : p.tables.exec = Jvm.exec) (hZ : Z.Warmed39 s.vm) (hown : s.vm.findClass own = some m.cls) (eT : T.heap = h) (w1 : (Cond.methodLink own index y).before a0 Z = true) (w2 : (Cond.static y).before a0 Z = true) (w3 : (Cond.initialized y.cls).before a0 Z = true) (w4 : (Cond.code y bytes maxL ret).before a0 Z = true)
    (hy : y.cls ≠ "java/lang/invoke/MethodHandle" ∧ y.cls ≠ "java/lang/invoke/VarHandle") (hg : g.method = m) (hsize : g.locals.size = c.maxLocals) (hlen : ∀ sig, parseMethodDescriptor y.desc = some sig → argsL.length = sig.parameters.length)
    (hstack : g.stack = argsL.reverse ++ rest) (hd : decode c.code g.pc = .ok (.invokestatic index, 3)) {W : Nat} (hW : 2 * g.monitorRoom + (rest.map fun v => v.category).sum ≤ W) (hf : rm.frames + 1 ≤ R.frames) (hl : W + (maxL + 11) + rm.locals ≤ R.locals) (hc : cells + rm.cells ≤ R.cells) (hs : slots + rm.slots ≤ R.slots) :
    ∃ v T' L, Stand p l e R s m args below meth c T' (locs ++ L) (cells + rm.cells) (slots + rm.slots) ∧ P v T'.heap L ∧ ∀ target, Steps p.tables e below (T'.setTop { g with pc := g.pc + 3, stack := v.toList ++ rest }) target → Steps p.tables e below (T.setTop g) target := by
  obtain ⟨v, vm₁, ⟨T', L', k', n'⟩, -, X', ⟨L, hQ, q1, q2, q3⟩, st⟩ := Jvm.LawKit.callS X hx (y := y) hown (mvT hZ w1) (mvT hZ w2) (mvT hZ w3) (mvT hZ w4) hy (backOf (W := W) D hZ w4 w3 hf hl) hg hsize (argsL := argsL) (rest := rest) hlen hstack hW hd (fun _ _ => ⟨rfl, eT, hc, hs⟩)
  dsimp only [Pt.U, Pt.locs, Pt.cells, Pt.slots] at X' q1 q2 q3 st hQ
  subst q1 q2 q3
  exact ⟨v, T', L, X', hQ, st⟩
theorem Does.special {y : MethodName} {bytes : ByteArray} {maxL : Nat} {rm : Room} {P : Option Value → Heap → List Loc → Prop} {own : String} {index : Nat} {a : Addr} {argsL rest : List Value} (D : Does l Z y bytes maxL none [] rm (.ref a :: argsL).toArray h P)
    (X : Stand p l e R s m args below meth c T locs cells slots) (hx : p.tables.exec = Jvm.exec) (hZ : Z.Warmed39 s.vm) (hown : s.vm.findClass own = some m.cls) (eT : T.heap = h) (hnm : y.name = "<init>") (w1 : (Cond.methodLink own index y).before a0 Z = true) (w2 : (Cond.instanceMethod y).before a0 Z = true) (w3 : (Cond.initialized y.cls).before a0 Z = true) (w4 : (Cond.code y bytes maxL none).before a0 Z = true)
    (hy : y.cls ≠ "java/lang/invoke/MethodHandle" ∧ y.cls ≠ "java/lang/invoke/VarHandle") (hg : g.method = m) (hsize : g.locals.size = c.maxLocals) (hlen : ∀ sig, parseMethodDescriptor y.desc = some sig → argsL.length = sig.parameters.length)
    (hstack : g.stack = argsL.reverse ++ .ref a :: rest) (hd : decode c.code g.pc = .ok (.invokespecial index, 3)) {W : Nat} (hW : 2 * g.monitorRoom + (rest.map fun v => v.category).sum ≤ W) (hf : rm.frames + 1 ≤ R.frames) (hl : W + (maxL + 11) + rm.locals ≤ R.locals) (hc : cells + rm.cells ≤ R.cells) (hs : slots + rm.slots ≤ R.slots) :
    ∃ v T' L, Stand p l e R s m args below meth c T' (locs ++ L) (cells + rm.cells) (slots + rm.slots) ∧ P v T'.heap L ∧ ∀ target, Steps p.tables e below (T'.setTop { g with pc := g.pc + 3, stack := v.toList ++ rest }) target → Steps p.tables e below (T.setTop g) target := by
  obtain ⟨v, vm₁, ⟨T', L', k', n'⟩, -, X', ⟨L, hQ, q1, q2, q3⟩, st⟩ := X.specialBack hx (y := y) hnm hown (mvT hZ w1) (mvT hZ w2) (mvT hZ w4) hy (backOf (W := W) D hZ w4 w3 hf hl) hg hsize (Steps.refl _) (a := a) (argsL := argsL) (rest := rest) hlen hstack hW hd (fun _ _ => ⟨rfl, eT, hc, hs⟩)
  dsimp only [Pt.U, Pt.locs, Pt.cells, Pt.slots] at X' q1 q2 q3 st hQ
  subst q1 q2 q3
  exact ⟨v, T', L, X', hQ, fun _ k => st.trans k⟩
theorem Does.virtual {y : MethodName} {bytes : ByteArray} {maxL : Nat} {ret : Option FieldType} {rm : Room} {P : Option Value → Heap → List Loc → Prop} {own C : String} {index : Nat} {a : Addr} {argsL rest : List Value} (D : Does l Z y bytes maxL ret [] rm (.ref a :: argsL).toArray h P)
    (X : Stand p l e R s m args below meth c T locs cells slots) (hx : p.tables.exec = Jvm.exec) (hZ : Z.Warmed39 s.vm) (hown : s.vm.findClass own = some m.cls) (eT : T.heap = h) (E : Exa Z h a C) (w1 : (Cond.methodLink own index y).before a0 Z = true) (w2 : (Cond.declares y).before a0 Z = true) (w2' : (Cond.selects C y y).before a0 Z = true) (w2'' : (Cond.instanceMethod y).before a0 Z = true) (w3 : (Cond.initialized y.cls).before a0 Z = true) (w4 : (Cond.code y bytes maxL ret).before a0 Z = true)
    (hy : y.cls ≠ "java/lang/invoke/MethodHandle" ∧ y.cls ≠ "java/lang/invoke/VarHandle") (hg : g.method = m) (hsize : g.locals.size = c.maxLocals) (hlen : ∀ sig, parseMethodDescriptor y.desc = some sig → argsL.length = sig.parameters.length)
    (hstack : g.stack = argsL.reverse ++ .ref a :: rest) (hd : decode c.code g.pc = .ok (.invokevirtual index, 3)) {W : Nat} (hW : 2 * g.monitorRoom + (rest.map fun v => v.category).sum ≤ W) (hf : rm.frames + 1 ≤ R.frames) (hl : W + (maxL + 11) + rm.locals ≤ R.locals) (hc : cells + rm.cells ≤ R.cells) (hs : slots + rm.slots ≤ R.slots) :
    ∃ v T' L, Stand p l e R s m args below meth c T' (locs ++ L) (cells + rm.cells) (slots + rm.slots) ∧ P v T'.heap L ∧ ∀ target, Steps p.tables e below (T'.setTop { g with pc := g.pc + 3, stack := v.toList ++ rest }) target → Steps p.tables e below (T.setTop g) target := by
  obtain ⟨cB, kB, q1, -, q3⟩ := isOf hZ eT E
  obtain ⟨v, vm₁, ⟨T', L', k', n'⟩, -, X', ⟨L, hQ, q1, q2, q3⟩, st⟩ := X.virtualBack hx (y := y) (z := y) hown (mvT hZ w1) (mvT hZ w2) (notFace_of_selects (args := #[]) (mvT hZ w2')) (mvT hZ w2') (mvT hZ w2'') hy (backOf (W := W) D hZ w4 w3 hf hl) q1 q3 hg hsize (Steps.refl _) (argsL := argsL) (rest := rest) hlen hstack hW hd (fun _ _ => ⟨rfl, eT, hc, hs⟩)
  dsimp only [Pt.U, Pt.locs, Pt.cells, Pt.slots] at X' q1 q2 q3 st hQ
  subst q1 q2 q3
  exact ⟨v, T', L, X', hQ, fun _ k => st.trans k⟩
theorem Does.virtualUp {x' z : MethodName} {owner : String} {bytes : ByteArray} {maxL : Nat} {ret : Option FieldType} {rm : Room} {P : Option Value → Heap → List Loc → Prop} {own C : String} {index : Nat} {a : Addr} {argsL rest : List Value} (D : Does l Z z bytes maxL ret [] rm (.ref a :: argsL).toArray h P)
    (X : Stand p l e R s m args below meth c T locs cells slots) (hx : p.tables.exec = Jvm.exec) (hZ : Z.Warmed39 s.vm) (hown : s.vm.findClass own = some m.cls) (eT : T.heap = h) (E : Exa Z h a C) (w1 : (Cond.methodLink own index x').before a0 Z = true) (w1' : (Cond.sameMethod x'.cls owner x'.name x'.desc).before a0 Z = true) (w2 : (Cond.declares ⟨owner, x'.name, x'.desc⟩).before a0 Z = true) (w2' : (Cond.selects C x' z).before a0 Z = true) (w2'' : (Cond.instanceMethod z).before a0 Z = true) (w3 : (Cond.initialized z.cls).before a0 Z = true) (w4 : (Cond.code z bytes maxL ret).before a0 Z = true)
    (hy : owner ≠ "java/lang/invoke/MethodHandle" ∧ owner ≠ "java/lang/invoke/VarHandle") (hg : g.method = m) (hsize : g.locals.size = c.maxLocals) (hlen : ∀ sig, parseMethodDescriptor x'.desc = some sig → argsL.length = sig.parameters.length)
    (hstack : g.stack = argsL.reverse ++ .ref a :: rest) (hd : decode c.code g.pc = .ok (.invokevirtual index, 3)) {W : Nat} (hW : 2 * g.monitorRoom + (rest.map fun v => v.category).sum ≤ W) (hf : rm.frames + 1 ≤ R.frames) (hl : W + (maxL + 11) + rm.locals ≤ R.locals) (hc : cells + rm.cells ≤ R.cells) (hs : slots + rm.slots ≤ R.slots) :
    ∃ v T' L, Stand p l e R s m args below meth c T' (locs ++ L) (cells + rm.cells) (slots + rm.slots) ∧ P v T'.heap L ∧ ∀ target, Steps p.tables e below (T'.setTop { g with pc := g.pc + 3, stack := v.toList ++ rest }) target → Steps p.tables e below (T.setTop g) target := by
  obtain ⟨cB, kB, q1, -, q3⟩ := isOf hZ eT E
  obtain ⟨v, vm₁, ⟨T', L', k', n'⟩, -, X', ⟨L, hQ, q1, q2, q3⟩, st⟩ := X.virtualBackUp hx (x := x') (y := z) hown (mvT hZ w1) (mvT hZ w1') (mvT hZ w2) hy (mvT hZ w2') (mvT hZ w2'') (backOf (W := W) D hZ w4 w3 hf hl) q1 q3 hg hsize (Steps.refl _) (argsL := argsL) (rest := rest) hlen hstack hW hd (fun _ _ => ⟨rfl, eT, hc, hs⟩)
  dsimp only [Pt.U, Pt.locs, Pt.cells, Pt.slots] at X' q1 q2 q3 st hQ
  subst q1 q2 q3
  exact ⟨v, T', L, X', hQ, fun _ k => st.trans k⟩
/-- a call that leaves the heap as it was and returns w -/
abbrev Val (w : Option Value) (h : Heap) : Option Value → Heap → List Loc → Prop := fun v h' L => v = w ∧ L = [] ∧ h' = h
theorem own_still {w : Option Value} {rm : Room} {rest : List Value} (hc : rm.cells = 0) (hs : rm.slots = 0)
    (H : ∃ v T' L, Stand p l e R s m args below meth c T' (locs ++ L) (cells + rm.cells) (slots + rm.slots) ∧ Val w h v T'.heap L ∧ ∀ target, Steps p.tables e below (T'.setTop { g with pc := g.pc + 3, stack := v.toList ++ rest }) target → Steps p.tables e below (T.setTop g) target) :
    ∃ T', Stand p l e R s m args below meth c T' locs cells slots ∧ T'.heap = h ∧ ∀ target, Steps p.tables e below (T'.setTop { g with pc := g.pc + 3, stack := w.toList ++ rest }) target → Steps p.tables e below (T.setTop g) target := by
  obtain ⟨v, T', L, X', ⟨rfl, rfl, e'⟩, st⟩ := H
  rw [hc, hs, List.append_nil] at X'
  exact ⟨T', X', e', st⟩
theorem own_Llt {x y : Int64} (h : x < y) : XT.cmpL x y < 0 := (lw_lt x y).mpr h
theorem own_Lnlt {x y : Int64} (h : ¬ x < y) : ¬ XT.cmpL x y < 0 := fun q => h ((lw_lt x y).mp q)
theorem own_Lgt {x y : Int64} (h : y < x) : 0 < XT.cmpL x y := (lw_gt x y).mpr h
theorem own_Lngt {x y : Int64} (h : ¬ y < x) : ¬ 0 < XT.cmpL x y := fun q => h ((lw_gt x y).mp q)
theorem own_Leq {x y : Int64} (h : x = y) : XT.cmpL x y = 0 := (lw_eq x y).mpr h
theorem own_Lneq {x y : Int64} (h : ¬ x = y) : ¬ XT.cmpL x y = 0 := fun q => h ((lw_eq x y).mp q)
theorem own_aeq {a b : Addr} (h : a = b) : XT.acmp .eq (.ref a) (.ref b) = true ∧ XT.acmp .ne (.ref a) (.ref b) = false := by subst h; exact ⟨decide_eq_true rfl, decide_eq_false (fun q => q rfl)⟩
theorem own_ane {a b : Addr} (h : ¬ a = b) : XT.acmp .eq (.ref a) (.ref b) = false ∧ XT.acmp .ne (.ref a) (.ref b) = true := ⟨decide_eq_false (fun q => h (by cases q; rfl)), decide_eq_true (fun q => h (by cases q; rfl))⟩
theorem own_ext {h0 h : Heap} (K : Keep h0 h []) : Ext h0 h := ⟨K.1, fun x c q => K.2.1 x c q nin0⟩
end GoKit
theorem own_sta {Z : State} {args : Array Value} {C f d K : String} (h : (Jvm.Cond.exactly (.static C f d) K).value args Z none Z [] = some true) (wi : (Jvm.Cond.initialized C).before args Z = true) (wl : (Jvm.Cond.laysStatic C f d).before args Z = true) :
    ∃ x, (Term.static C f d).eval args Z none [] Z = some (.ref x) ∧ Sta Z Z.heap C f d (.ref x) ∧ Exa Z Z.heap x K := by
  obtain ⟨x, ev⟩ := exa_v h
  exact ⟨x, ev, Sta.start ev (Or.inr ⟨wi, wl⟩), Exa.start ev h⟩
theorem own_fldI {Z : State} {args : Array Value} {t : Term} {O n d : String} {k : Int32} {x : Addr} (ev : t.eval args Z none [] Z = some (.ref x)) (h : (Jvm.Cond.eq (.field t O n d) (.int k)).value args Z none Z [] = some true) : Fld Z Z.heap x O n d (.int k) := by
  obtain ⟨u, v, e1, e2, k1, -⟩ := cmp_v (Or.inl h)
  have e3 : v = .int k := by simpa [Term.eval] using e2.symm
  subst e3
  obtain ⟨z, rfl⟩ : ∃ z, u = .int z := by cases u <;> simp [Kin, Value.isRef] at k1 ⊢
  have q : z = k := gotT (Cond.eq_ints e1 e2) h
  subst q
  exact Fld.start ((fld_at ev).symm.trans e1)
def own_dig (c : Int32) : Int32 := if c < 48 then 0 else if 57 < c then 0 else 1
def own_ten (c : Int32) : Int32 := if c = 48 then 1 else if c = 49 then 1 else if c = 50 then 1 else if c = 51 then 1 else if c = 52 then 1 else if c = 53 then 1 else if c = 54 then 1 else if c = 55 then 1 else if c = 56 then 1 else if c = 57 then 1 else 0
theorem own_same (c : Int32) : own_dig c = own_ten c := by
  by_cases h : 48 ≤ c.toInt ∧ c.toInt ≤ 57
  · have q : c = 48 ∨ c = 49 ∨ c = 50 ∨ c = 51 ∨ c = 52 ∨ c = 53 ∨ c = 54 ∨ c = 55 ∨ c = 56 ∨ c = 57 := by
      simp only [← Int32.toInt_inj, Int32.reduceToInt]; omega
    rcases q with rfl | rfl | rfl | rfl | rfl | rfl | rfl | rfl | rfl | rfl <;> decide
  · have n : ∀ k : Int32, (48 ≤ k.toInt ∧ k.toInt ≤ 57) → ¬ c = k := fun k hk e => h (e ▸ hk)
    have e1 : own_ten c = 0 := by
      rw [own_ten, if_neg (n 48 (by decide)), if_neg (n 49 (by decide)), if_neg (n 50 (by decide)), if_neg (n 51 (by decide)), if_neg (n 52 (by decide)), if_neg (n 53 (by decide)), if_neg (n 54 (by decide)), if_neg (n 55 (by decide)), if_neg (n 56 (by decide)), if_neg (n 57 (by decide))]
    rw [e1, own_dig]
    by_cases h1 : c < 48
    · rw [if_pos h1]
    · have h2 : 57 < c := by
        rw [Int32.lt_iff_toInt_lt] at h1 ⊢
        have z1 : (48 : Int32).toInt = 48 := by decide
        have z2 : (57 : Int32).toInt = 57 := by decide
        omega
      rw [if_neg h1, if_pos h2]
theorem d_prog_45_method_8_code_0 : decode prog_45_method_8_code 0 = .ok (.iload_n 0, 1) := by decide +kernel
theorem d_prog_45_method_8_code_1 : decode prog_45_method_8_code 1 = .ok (.bipush 48, 2) := by decide +kernel
theorem d_prog_45_method_8_code_3 : decode prog_45_method_8_code 3 = .ok (.if_icmp .lt 13, 3) := by decide +kernel
theorem d_prog_45_method_8_code_16 : decode prog_45_method_8_code 16 = .ok (.iconst 0, 1) := by decide +kernel
theorem d_prog_45_method_8_code_17 : decode prog_45_method_8_code 17 = .ok (.ireturn, 1) := by decide +kernel
theorem d_prog_45_method_8_code_6 : decode prog_45_method_8_code 6 = .ok (.iload_n 0, 1) := by decide +kernel
theorem d_prog_45_method_8_code_7 : decode prog_45_method_8_code 7 = .ok (.bipush 57, 2) := by decide +kernel
theorem d_prog_45_method_8_code_9 : decode prog_45_method_8_code 9 = .ok (.if_icmp .gt 7, 3) := by decide +kernel
theorem d_prog_45_method_8_code_12 : decode prog_45_method_8_code 12 = .ok (.iconst 1, 1) := by decide +kernel
theorem d_prog_45_method_8_code_13 : decode prog_45_method_8_code 13 = .ok (.goto 4, 3) := by decide +kernel
theorem pn_com_example_billwright_billwright_Notation : plainName "com/example/billwright/billwright/Notation" = true := by first | (simp [plainName, overriddenIn]; done) | decide +kernel
theorem d_method_2_code_0 : decode method_2_code 0 = .ok (.iload_n 0, 1) := by decide +kernel
theorem d_method_2_code_1 : decode method_2_code 1 = .ok (.bipush 48, 2) := by decide +kernel
theorem d_method_2_code_3 : decode method_2_code 3 = .ok (.if_icmp .eq 57, 3) := by decide +kernel
theorem d_method_2_code_60 : decode method_2_code 60 = .ok (.iconst 1, 1) := by decide +kernel
theorem d_method_2_code_61 : decode method_2_code 61 = .ok (.goto 4, 3) := by decide +kernel
theorem d_method_2_code_65 : decode method_2_code 65 = .ok (.ireturn, 1) := by decide +kernel
theorem d_method_2_code_6 : decode method_2_code 6 = .ok (.iload_n 0, 1) := by decide +kernel
theorem d_method_2_code_7 : decode method_2_code 7 = .ok (.bipush 49, 2) := by decide +kernel
theorem d_method_2_code_9 : decode method_2_code 9 = .ok (.if_icmp .eq 51, 3) := by decide +kernel
theorem d_method_2_code_12 : decode method_2_code 12 = .ok (.iload_n 0, 1) := by decide +kernel
theorem d_method_2_code_13 : decode method_2_code 13 = .ok (.bipush 50, 2) := by decide +kernel
theorem d_method_2_code_15 : decode method_2_code 15 = .ok (.if_icmp .eq 45, 3) := by decide +kernel
theorem d_method_2_code_18 : decode method_2_code 18 = .ok (.iload_n 0, 1) := by decide +kernel
theorem d_method_2_code_19 : decode method_2_code 19 = .ok (.bipush 51, 2) := by decide +kernel
theorem d_method_2_code_21 : decode method_2_code 21 = .ok (.if_icmp .eq 39, 3) := by decide +kernel
theorem d_method_2_code_24 : decode method_2_code 24 = .ok (.iload_n 0, 1) := by decide +kernel
theorem d_method_2_code_25 : decode method_2_code 25 = .ok (.bipush 52, 2) := by decide +kernel
theorem d_method_2_code_27 : decode method_2_code 27 = .ok (.if_icmp .eq 33, 3) := by decide +kernel
theorem d_method_2_code_30 : decode method_2_code 30 = .ok (.iload_n 0, 1) := by decide +kernel
theorem d_method_2_code_31 : decode method_2_code 31 = .ok (.bipush 53, 2) := by decide +kernel
theorem d_method_2_code_33 : decode method_2_code 33 = .ok (.if_icmp .eq 27, 3) := by decide +kernel
theorem d_method_2_code_36 : decode method_2_code 36 = .ok (.iload_n 0, 1) := by decide +kernel
theorem d_method_2_code_37 : decode method_2_code 37 = .ok (.bipush 54, 2) := by decide +kernel
theorem d_method_2_code_39 : decode method_2_code 39 = .ok (.if_icmp .eq 21, 3) := by decide +kernel
theorem d_method_2_code_42 : decode method_2_code 42 = .ok (.iload_n 0, 1) := by decide +kernel
theorem d_method_2_code_43 : decode method_2_code 43 = .ok (.bipush 55, 2) := by decide +kernel
theorem d_method_2_code_45 : decode method_2_code 45 = .ok (.if_icmp .eq 15, 3) := by decide +kernel
theorem d_method_2_code_48 : decode method_2_code 48 = .ok (.iload_n 0, 1) := by decide +kernel
theorem d_method_2_code_49 : decode method_2_code 49 = .ok (.bipush 56, 2) := by decide +kernel
theorem d_method_2_code_51 : decode method_2_code 51 = .ok (.if_icmp .eq 9, 3) := by decide +kernel
theorem d_method_2_code_54 : decode method_2_code 54 = .ok (.iload_n 0, 1) := by decide +kernel
theorem d_method_2_code_55 : decode method_2_code 55 = .ok (.bipush 57, 2) := by decide +kernel
theorem d_method_2_code_57 : decode method_2_code 57 = .ok (.if_icmp .ne 7, 3) := by decide +kernel
theorem d_method_2_code_64 : decode method_2_code 64 = .ok (.iconst 0, 1) := by decide +kernel
theorem pn_com_example_billwright_billwright_NotationIsDigitPinLaw : plainName "com/example/billwright/billwright/NotationIsDigitPinLaw" = true := by first | (simp [plainName, overriddenIn]; done) | decide +kernel
theorem pd_28C29Z : parseMethodDescriptor "(C)Z" = some ⟨[.char], some .boolean⟩ := by decide +kernel
theorem ef_rmDig (x0 : Int32) (m : MethodId) : entryFrame m #[(.int x0)] 1 = mkF m 0 #[.val (.int x0)] [] := by first | (simp [entryFrame, mkF, argsToLocals, Value.category]; done) | rfl
set_option maxRecDepth 65536 in
set_option maxHeartbeats 40000000 in
theorem rmDig (l : Launch) (Z : State) (a0 : Array Value) (hw : ∀ d ∈ tables_1, d.before a0 Z = true) (p1 : Int32) (h0 : Heap) :
    Does l Z (⟨"com/example/billwright/billwright/Notation", "isDigit", "(C)Z"⟩ : MethodName) prog_45_method_8_code 1 (some .boolean) [] ({ frames := 0, cells := 0, slots := 0, locals := 0 } : Room) #[(.int p1)] h0 (Val (some (.int (own_dig p1))) h0) := by
  refine Does.intro pn_com_example_billwright_billwright_Notation (ef_rmDig p1) ?_
  intro p e s m below meth c s₁ hx hby hml hown hnm hret hlk hZ e0 X0
  show Go p e below _ s₁ (mkF m 0 #[.val (.int p1)] [])
  refine Go.st (fun _ h => XS.iloadN X0.here hx rfl (hb hby d_prog_45_method_8_code_0) rfl h) ?_
  show Go p e below _ s₁ (mkF m 1 #[.val (.int p1)] [(.int p1)])
  refine Go.st (fun _ h => XT.bipushV X0.here hx rfl (48 : Int32) (hb hby d_prog_45_method_8_code_1) (by decide) h) ?_
  show Go p e below _ s₁ (mkF m 3 #[.val (.int p1)] [(.int (48 : Int32)), (.int p1)])
  by_cases hc1 : p1 < (48 : Int32)
  · refine Go.st (fun _ h => XS.icmpYes X0.here hx rfl (pc0 := 3) (pc' := 16) rfl (hb hby d_prog_45_method_8_code_3) rfl ((tlt hc1).1) (by decide) (by decide) h) ?_
    show Go p e below _ s₁ (mkF m 16 #[.val (.int p1)] [])
    refine Go.st (fun _ h => XT.iconstV X0.here hx rfl (0 : Int32) (hb hby d_prog_45_method_8_code_16) (by decide) h) ?_
    show Go p e below _ s₁ (mkF m 17 #[.val (.int p1)] [(.int (0 : Int32))])
    refine Go.retZ X0 hx hlk hret rfl (hb hby d_prog_45_method_8_code_17) (by decide) (by decide) ?_
    exact ⟨by simp [own_dig, *], rfl, e0⟩
  · refine Go.st (fun _ h => XS.icmpNo X0.here hx rfl (hb hby d_prog_45_method_8_code_3) rfl ((flt hc1).1) h) ?_
    show Go p e below _ s₁ (mkF m 6 #[.val (.int p1)] [])
    refine Go.st (fun _ h => XS.iloadN X0.here hx rfl (hb hby d_prog_45_method_8_code_6) rfl h) ?_
    show Go p e below _ s₁ (mkF m 7 #[.val (.int p1)] [(.int p1)])
    refine Go.st (fun _ h => XT.bipushV X0.here hx rfl (57 : Int32) (hb hby d_prog_45_method_8_code_7) (by decide) h) ?_
    show Go p e below _ s₁ (mkF m 9 #[.val (.int p1)] [(.int (57 : Int32)), (.int p1)])
    by_cases hc2 : (57 : Int32) < p1
    · refine Go.st (fun _ h => XS.icmpYes X0.here hx rfl (pc0 := 9) (pc' := 16) rfl (hb hby d_prog_45_method_8_code_9) rfl ((tlt hc2).2.2.1) (by decide) (by decide) h) ?_
      show Go p e below _ s₁ (mkF m 16 #[.val (.int p1)] [])
      refine Go.st (fun _ h => XT.iconstV X0.here hx rfl (0 : Int32) (hb hby d_prog_45_method_8_code_16) (by decide) h) ?_
      show Go p e below _ s₁ (mkF m 17 #[.val (.int p1)] [(.int (0 : Int32))])
      refine Go.retZ X0 hx hlk hret rfl (hb hby d_prog_45_method_8_code_17) (by decide) (by decide) ?_
      exact ⟨by simp [own_dig, *], rfl, e0⟩
    · refine Go.st (fun _ h => XS.icmpNo X0.here hx rfl (hb hby d_prog_45_method_8_code_9) rfl ((flt hc2).2.2.1) h) ?_
      show Go p e below _ s₁ (mkF m 12 #[.val (.int p1)] [])
      refine Go.st (fun _ h => XT.iconstV X0.here hx rfl (1 : Int32) (hb hby d_prog_45_method_8_code_12) (by decide) h) ?_
      show Go p e below _ s₁ (mkF m 13 #[.val (.int p1)] [(.int (1 : Int32))])
      refine Go.st (fun _ h => XS.goto X0.here hx rfl (pc0 := 13) (pc' := 17) rfl (hb hby d_prog_45_method_8_code_13) (by decide) (by decide) h) ?_
      show Go p e below _ s₁ (mkF m 17 #[.val (.int p1)] [(.int (1 : Int32))])
      refine Go.retZ X0 hx hlk hret rfl (hb hby d_prog_45_method_8_code_17) (by decide) (by decide) ?_
      exact ⟨by simp [own_dig, *], rfl, e0⟩
theorem ef_rmTen (x0 : Int32) (m : MethodId) : entryFrame m #[(.int x0)] 1 = mkF m 0 #[.val (.int x0)] [] := by first | (simp [entryFrame, mkF, argsToLocals, Value.category]; done) | rfl
set_option maxRecDepth 65536 in
set_option maxHeartbeats 40000000 in
theorem rmTen (l : Launch) (Z : State) (a0 : Array Value) (hw : ∀ d ∈ tables_1, d.before a0 Z = true) (p1 : Int32) (h0 : Heap) :
    Does l Z (⟨"com/example/billwright/billwright/NotationIsDigitPinLaw", "oneOfTheTen", "(C)Z"⟩ : MethodName) method_2_code 1 (some .boolean) [] ({ frames := 0, cells := 0, slots := 0, locals := 0 } : Room) #[(.int p1)] h0 (Val (some (.int (own_ten p1))) h0) := by
  refine Does.intro pn_com_example_billwright_billwright_NotationIsDigitPinLaw (ef_rmTen p1) ?_
  intro p e s m below meth c s₁ hx hby hml hown hnm hret hlk hZ e0 X0
  show Go p e below _ s₁ (mkF m 0 #[.val (.int p1)] [])
  refine Go.st (fun _ h => XS.iloadN X0.here hx rfl (hb hby d_method_2_code_0) rfl h) ?_
  show Go p e below _ s₁ (mkF m 1 #[.val (.int p1)] [(.int p1)])
  refine Go.st (fun _ h => XT.bipushV X0.here hx rfl (48 : Int32) (hb hby d_method_2_code_1) (by decide) h) ?_
  show Go p e below _ s₁ (mkF m 3 #[.val (.int p1)] [(.int (48 : Int32)), (.int p1)])
  by_cases hc1 : p1 = (48 : Int32)
  · refine Go.st (fun _ h => XS.icmpYes X0.here hx rfl (pc0 := 3) (pc' := 60) rfl (hb hby d_method_2_code_3) rfl ((teq hc1).1) (by decide) (by decide) h) ?_
    show Go p e below _ s₁ (mkF m 60 #[.val (.int p1)] [])
    refine Go.st (fun _ h => XT.iconstV X0.here hx rfl (1 : Int32) (hb hby d_method_2_code_60) (by decide) h) ?_
    show Go p e below _ s₁ (mkF m 61 #[.val (.int p1)] [(.int (1 : Int32))])
    refine Go.st (fun _ h => XS.goto X0.here hx rfl (pc0 := 61) (pc' := 65) rfl (hb hby d_method_2_code_61) (by decide) (by decide) h) ?_
    show Go p e below _ s₁ (mkF m 65 #[.val (.int p1)] [(.int (1 : Int32))])
    refine Go.retZ X0 hx hlk hret rfl (hb hby d_method_2_code_65) (by decide) (by decide) ?_
    exact ⟨by simp [own_ten, *], rfl, e0⟩
  · refine Go.st (fun _ h => XS.icmpNo X0.here hx rfl (hb hby d_method_2_code_3) rfl ((feq hc1).1) h) ?_
    show Go p e below _ s₁ (mkF m 6 #[.val (.int p1)] [])
    refine Go.st (fun _ h => XS.iloadN X0.here hx rfl (hb hby d_method_2_code_6) rfl h) ?_
    show Go p e below _ s₁ (mkF m 7 #[.val (.int p1)] [(.int p1)])
    refine Go.st (fun _ h => XT.bipushV X0.here hx rfl (49 : Int32) (hb hby d_method_2_code_7) (by decide) h) ?_
    show Go p e below _ s₁ (mkF m 9 #[.val (.int p1)] [(.int (49 : Int32)), (.int p1)])
    by_cases hc2 : p1 = (49 : Int32)
    · refine Go.st (fun _ h => XS.icmpYes X0.here hx rfl (pc0 := 9) (pc' := 60) rfl (hb hby d_method_2_code_9) rfl ((teq hc2).1) (by decide) (by decide) h) ?_
      show Go p e below _ s₁ (mkF m 60 #[.val (.int p1)] [])
      refine Go.st (fun _ h => XT.iconstV X0.here hx rfl (1 : Int32) (hb hby d_method_2_code_60) (by decide) h) ?_
      show Go p e below _ s₁ (mkF m 61 #[.val (.int p1)] [(.int (1 : Int32))])
      refine Go.st (fun _ h => XS.goto X0.here hx rfl (pc0 := 61) (pc' := 65) rfl (hb hby d_method_2_code_61) (by decide) (by decide) h) ?_
      show Go p e below _ s₁ (mkF m 65 #[.val (.int p1)] [(.int (1 : Int32))])
      refine Go.retZ X0 hx hlk hret rfl (hb hby d_method_2_code_65) (by decide) (by decide) ?_
      exact ⟨by simp [own_ten, *], rfl, e0⟩
    · refine Go.st (fun _ h => XS.icmpNo X0.here hx rfl (hb hby d_method_2_code_9) rfl ((feq hc2).1) h) ?_
      show Go p e below _ s₁ (mkF m 12 #[.val (.int p1)] [])
      refine Go.st (fun _ h => XS.iloadN X0.here hx rfl (hb hby d_method_2_code_12) rfl h) ?_
      show Go p e below _ s₁ (mkF m 13 #[.val (.int p1)] [(.int p1)])
      refine Go.st (fun _ h => XT.bipushV X0.here hx rfl (50 : Int32) (hb hby d_method_2_code_13) (by decide) h) ?_
      show Go p e below _ s₁ (mkF m 15 #[.val (.int p1)] [(.int (50 : Int32)), (.int p1)])
      by_cases hc3 : p1 = (50 : Int32)
      · refine Go.st (fun _ h => XS.icmpYes X0.here hx rfl (pc0 := 15) (pc' := 60) rfl (hb hby d_method_2_code_15) rfl ((teq hc3).1) (by decide) (by decide) h) ?_
        show Go p e below _ s₁ (mkF m 60 #[.val (.int p1)] [])
        refine Go.st (fun _ h => XT.iconstV X0.here hx rfl (1 : Int32) (hb hby d_method_2_code_60) (by decide) h) ?_
        show Go p e below _ s₁ (mkF m 61 #[.val (.int p1)] [(.int (1 : Int32))])
        refine Go.st (fun _ h => XS.goto X0.here hx rfl (pc0 := 61) (pc' := 65) rfl (hb hby d_method_2_code_61) (by decide) (by decide) h) ?_
        show Go p e below _ s₁ (mkF m 65 #[.val (.int p1)] [(.int (1 : Int32))])
        refine Go.retZ X0 hx hlk hret rfl (hb hby d_method_2_code_65) (by decide) (by decide) ?_
        exact ⟨by simp [own_ten, *], rfl, e0⟩
      · refine Go.st (fun _ h => XS.icmpNo X0.here hx rfl (hb hby d_method_2_code_15) rfl ((feq hc3).1) h) ?_
        show Go p e below _ s₁ (mkF m 18 #[.val (.int p1)] [])
        refine Go.st (fun _ h => XS.iloadN X0.here hx rfl (hb hby d_method_2_code_18) rfl h) ?_
        show Go p e below _ s₁ (mkF m 19 #[.val (.int p1)] [(.int p1)])
        refine Go.st (fun _ h => XT.bipushV X0.here hx rfl (51 : Int32) (hb hby d_method_2_code_19) (by decide) h) ?_
        show Go p e below _ s₁ (mkF m 21 #[.val (.int p1)] [(.int (51 : Int32)), (.int p1)])
        by_cases hc4 : p1 = (51 : Int32)
        · refine Go.st (fun _ h => XS.icmpYes X0.here hx rfl (pc0 := 21) (pc' := 60) rfl (hb hby d_method_2_code_21) rfl ((teq hc4).1) (by decide) (by decide) h) ?_
          show Go p e below _ s₁ (mkF m 60 #[.val (.int p1)] [])
          refine Go.st (fun _ h => XT.iconstV X0.here hx rfl (1 : Int32) (hb hby d_method_2_code_60) (by decide) h) ?_
          show Go p e below _ s₁ (mkF m 61 #[.val (.int p1)] [(.int (1 : Int32))])
          refine Go.st (fun _ h => XS.goto X0.here hx rfl (pc0 := 61) (pc' := 65) rfl (hb hby d_method_2_code_61) (by decide) (by decide) h) ?_
          show Go p e below _ s₁ (mkF m 65 #[.val (.int p1)] [(.int (1 : Int32))])
          refine Go.retZ X0 hx hlk hret rfl (hb hby d_method_2_code_65) (by decide) (by decide) ?_
          exact ⟨by simp [own_ten, *], rfl, e0⟩
        · refine Go.st (fun _ h => XS.icmpNo X0.here hx rfl (hb hby d_method_2_code_21) rfl ((feq hc4).1) h) ?_
          show Go p e below _ s₁ (mkF m 24 #[.val (.int p1)] [])
          refine Go.st (fun _ h => XS.iloadN X0.here hx rfl (hb hby d_method_2_code_24) rfl h) ?_
          show Go p e below _ s₁ (mkF m 25 #[.val (.int p1)] [(.int p1)])
          refine Go.st (fun _ h => XT.bipushV X0.here hx rfl (52 : Int32) (hb hby d_method_2_code_25) (by decide) h) ?_
          show Go p e below _ s₁ (mkF m 27 #[.val (.int p1)] [(.int (52 : Int32)), (.int p1)])
          by_cases hc5 : p1 = (52 : Int32)
          · refine Go.st (fun _ h => XS.icmpYes X0.here hx rfl (pc0 := 27) (pc' := 60) rfl (hb hby d_method_2_code_27) rfl ((teq hc5).1) (by decide) (by decide) h) ?_
            show Go p e below _ s₁ (mkF m 60 #[.val (.int p1)] [])
            refine Go.st (fun _ h => XT.iconstV X0.here hx rfl (1 : Int32) (hb hby d_method_2_code_60) (by decide) h) ?_
            show Go p e below _ s₁ (mkF m 61 #[.val (.int p1)] [(.int (1 : Int32))])
            refine Go.st (fun _ h => XS.goto X0.here hx rfl (pc0 := 61) (pc' := 65) rfl (hb hby d_method_2_code_61) (by decide) (by decide) h) ?_
            show Go p e below _ s₁ (mkF m 65 #[.val (.int p1)] [(.int (1 : Int32))])
            refine Go.retZ X0 hx hlk hret rfl (hb hby d_method_2_code_65) (by decide) (by decide) ?_
            exact ⟨by simp [own_ten, *], rfl, e0⟩
          · refine Go.st (fun _ h => XS.icmpNo X0.here hx rfl (hb hby d_method_2_code_27) rfl ((feq hc5).1) h) ?_
            show Go p e below _ s₁ (mkF m 30 #[.val (.int p1)] [])
            refine Go.st (fun _ h => XS.iloadN X0.here hx rfl (hb hby d_method_2_code_30) rfl h) ?_
            show Go p e below _ s₁ (mkF m 31 #[.val (.int p1)] [(.int p1)])
            refine Go.st (fun _ h => XT.bipushV X0.here hx rfl (53 : Int32) (hb hby d_method_2_code_31) (by decide) h) ?_
            show Go p e below _ s₁ (mkF m 33 #[.val (.int p1)] [(.int (53 : Int32)), (.int p1)])
            by_cases hc6 : p1 = (53 : Int32)
            · refine Go.st (fun _ h => XS.icmpYes X0.here hx rfl (pc0 := 33) (pc' := 60) rfl (hb hby d_method_2_code_33) rfl ((teq hc6).1) (by decide) (by decide) h) ?_
              show Go p e below _ s₁ (mkF m 60 #[.val (.int p1)] [])
              refine Go.st (fun _ h => XT.iconstV X0.here hx rfl (1 : Int32) (hb hby d_method_2_code_60) (by decide) h) ?_
              show Go p e below _ s₁ (mkF m 61 #[.val (.int p1)] [(.int (1 : Int32))])
              refine Go.st (fun _ h => XS.goto X0.here hx rfl (pc0 := 61) (pc' := 65) rfl (hb hby d_method_2_code_61) (by decide) (by decide) h) ?_
              show Go p e below _ s₁ (mkF m 65 #[.val (.int p1)] [(.int (1 : Int32))])
              refine Go.retZ X0 hx hlk hret rfl (hb hby d_method_2_code_65) (by decide) (by decide) ?_
              exact ⟨by simp [own_ten, *], rfl, e0⟩
            · refine Go.st (fun _ h => XS.icmpNo X0.here hx rfl (hb hby d_method_2_code_33) rfl ((feq hc6).1) h) ?_
              show Go p e below _ s₁ (mkF m 36 #[.val (.int p1)] [])
              refine Go.st (fun _ h => XS.iloadN X0.here hx rfl (hb hby d_method_2_code_36) rfl h) ?_
              show Go p e below _ s₁ (mkF m 37 #[.val (.int p1)] [(.int p1)])
              refine Go.st (fun _ h => XT.bipushV X0.here hx rfl (54 : Int32) (hb hby d_method_2_code_37) (by decide) h) ?_
              show Go p e below _ s₁ (mkF m 39 #[.val (.int p1)] [(.int (54 : Int32)), (.int p1)])
              by_cases hc7 : p1 = (54 : Int32)
              · refine Go.st (fun _ h => XS.icmpYes X0.here hx rfl (pc0 := 39) (pc' := 60) rfl (hb hby d_method_2_code_39) rfl ((teq hc7).1) (by decide) (by decide) h) ?_
                show Go p e below _ s₁ (mkF m 60 #[.val (.int p1)] [])
                refine Go.st (fun _ h => XT.iconstV X0.here hx rfl (1 : Int32) (hb hby d_method_2_code_60) (by decide) h) ?_
                show Go p e below _ s₁ (mkF m 61 #[.val (.int p1)] [(.int (1 : Int32))])
                refine Go.st (fun _ h => XS.goto X0.here hx rfl (pc0 := 61) (pc' := 65) rfl (hb hby d_method_2_code_61) (by decide) (by decide) h) ?_
                show Go p e below _ s₁ (mkF m 65 #[.val (.int p1)] [(.int (1 : Int32))])
                refine Go.retZ X0 hx hlk hret rfl (hb hby d_method_2_code_65) (by decide) (by decide) ?_
                exact ⟨by simp [own_ten, *], rfl, e0⟩
              · refine Go.st (fun _ h => XS.icmpNo X0.here hx rfl (hb hby d_method_2_code_39) rfl ((feq hc7).1) h) ?_
                show Go p e below _ s₁ (mkF m 42 #[.val (.int p1)] [])
                refine Go.st (fun _ h => XS.iloadN X0.here hx rfl (hb hby d_method_2_code_42) rfl h) ?_
                show Go p e below _ s₁ (mkF m 43 #[.val (.int p1)] [(.int p1)])
                refine Go.st (fun _ h => XT.bipushV X0.here hx rfl (55 : Int32) (hb hby d_method_2_code_43) (by decide) h) ?_
                show Go p e below _ s₁ (mkF m 45 #[.val (.int p1)] [(.int (55 : Int32)), (.int p1)])
                by_cases hc8 : p1 = (55 : Int32)
                · refine Go.st (fun _ h => XS.icmpYes X0.here hx rfl (pc0 := 45) (pc' := 60) rfl (hb hby d_method_2_code_45) rfl ((teq hc8).1) (by decide) (by decide) h) ?_
                  show Go p e below _ s₁ (mkF m 60 #[.val (.int p1)] [])
                  refine Go.st (fun _ h => XT.iconstV X0.here hx rfl (1 : Int32) (hb hby d_method_2_code_60) (by decide) h) ?_
                  show Go p e below _ s₁ (mkF m 61 #[.val (.int p1)] [(.int (1 : Int32))])
                  refine Go.st (fun _ h => XS.goto X0.here hx rfl (pc0 := 61) (pc' := 65) rfl (hb hby d_method_2_code_61) (by decide) (by decide) h) ?_
                  show Go p e below _ s₁ (mkF m 65 #[.val (.int p1)] [(.int (1 : Int32))])
                  refine Go.retZ X0 hx hlk hret rfl (hb hby d_method_2_code_65) (by decide) (by decide) ?_
                  exact ⟨by simp [own_ten, *], rfl, e0⟩
                · refine Go.st (fun _ h => XS.icmpNo X0.here hx rfl (hb hby d_method_2_code_45) rfl ((feq hc8).1) h) ?_
                  show Go p e below _ s₁ (mkF m 48 #[.val (.int p1)] [])
                  refine Go.st (fun _ h => XS.iloadN X0.here hx rfl (hb hby d_method_2_code_48) rfl h) ?_
                  show Go p e below _ s₁ (mkF m 49 #[.val (.int p1)] [(.int p1)])
                  refine Go.st (fun _ h => XT.bipushV X0.here hx rfl (56 : Int32) (hb hby d_method_2_code_49) (by decide) h) ?_
                  show Go p e below _ s₁ (mkF m 51 #[.val (.int p1)] [(.int (56 : Int32)), (.int p1)])
                  by_cases hc9 : p1 = (56 : Int32)
                  · refine Go.st (fun _ h => XS.icmpYes X0.here hx rfl (pc0 := 51) (pc' := 60) rfl (hb hby d_method_2_code_51) rfl ((teq hc9).1) (by decide) (by decide) h) ?_
                    show Go p e below _ s₁ (mkF m 60 #[.val (.int p1)] [])
                    refine Go.st (fun _ h => XT.iconstV X0.here hx rfl (1 : Int32) (hb hby d_method_2_code_60) (by decide) h) ?_
                    show Go p e below _ s₁ (mkF m 61 #[.val (.int p1)] [(.int (1 : Int32))])
                    refine Go.st (fun _ h => XS.goto X0.here hx rfl (pc0 := 61) (pc' := 65) rfl (hb hby d_method_2_code_61) (by decide) (by decide) h) ?_
                    show Go p e below _ s₁ (mkF m 65 #[.val (.int p1)] [(.int (1 : Int32))])
                    refine Go.retZ X0 hx hlk hret rfl (hb hby d_method_2_code_65) (by decide) (by decide) ?_
                    exact ⟨by simp [own_ten, *], rfl, e0⟩
                  · refine Go.st (fun _ h => XS.icmpNo X0.here hx rfl (hb hby d_method_2_code_51) rfl ((feq hc9).1) h) ?_
                    show Go p e below _ s₁ (mkF m 54 #[.val (.int p1)] [])
                    refine Go.st (fun _ h => XS.iloadN X0.here hx rfl (hb hby d_method_2_code_54) rfl h) ?_
                    show Go p e below _ s₁ (mkF m 55 #[.val (.int p1)] [(.int p1)])
                    refine Go.st (fun _ h => XT.bipushV X0.here hx rfl (57 : Int32) (hb hby d_method_2_code_55) (by decide) h) ?_
                    show Go p e below _ s₁ (mkF m 57 #[.val (.int p1)] [(.int (57 : Int32)), (.int p1)])
                    by_cases hc10 : p1 = (57 : Int32)
                    · refine Go.st (fun _ h => XS.icmpNo X0.here hx rfl (hb hby d_method_2_code_57) rfl ((teq hc10).2) h) ?_
                      show Go p e below _ s₁ (mkF m 60 #[.val (.int p1)] [])
                      refine Go.st (fun _ h => XT.iconstV X0.here hx rfl (1 : Int32) (hb hby d_method_2_code_60) (by decide) h) ?_
                      show Go p e below _ s₁ (mkF m 61 #[.val (.int p1)] [(.int (1 : Int32))])
                      refine Go.st (fun _ h => XS.goto X0.here hx rfl (pc0 := 61) (pc' := 65) rfl (hb hby d_method_2_code_61) (by decide) (by decide) h) ?_
                      show Go p e below _ s₁ (mkF m 65 #[.val (.int p1)] [(.int (1 : Int32))])
                      refine Go.retZ X0 hx hlk hret rfl (hb hby d_method_2_code_65) (by decide) (by decide) ?_
                      exact ⟨by simp [own_ten, *], rfl, e0⟩
                    · refine Go.st (fun _ h => XS.icmpYes X0.here hx rfl (pc0 := 57) (pc' := 64) rfl (hb hby d_method_2_code_57) rfl ((feq hc10).2) (by decide) (by decide) h) ?_
                      show Go p e below _ s₁ (mkF m 64 #[.val (.int p1)] [])
                      refine Go.st (fun _ h => XT.iconstV X0.here hx rfl (0 : Int32) (hb hby d_method_2_code_64) (by decide) h) ?_
                      show Go p e below _ s₁ (mkF m 65 #[.val (.int p1)] [(.int (0 : Int32))])
                      refine Go.retZ X0 hx hlk hret rfl (hb hby d_method_2_code_65) (by decide) (by decide) ?_
                      exact ⟨by simp [own_ten, *], rfl, e0⟩
theorem ef_rmLaw (x0 : Int32) (m : MethodId) : entryFrame m #[(.int x0)] maxLocals = mkF m 0 #[.val (.int x0), .unset, .unset, .unset] [] := by first | (simp [entryFrame, mkF, argsToLocals, Value.category, maxLocals]; done) | rfl
set_option maxRecDepth 65536 in
set_option maxHeartbeats 40000000 in
theorem rmLaw (l : Launch) (Z : State) (a0 : Array Value) (hw : ∀ d ∈ tables_1, d.before a0 Z = true) (p1 : Int32) (h0 : Heap) (n0 : Nat) :
    Does l Z x code maxLocals ret tables_1 room_1 #[(.int p1)] h0 (fun v h L => v = some (.int 1) ∧ Fr n0 L) := by
  refine Does.intro pn_com_example_billwright_billwright_NotationIsDigitPinLaw (ef_rmLaw p1) ?_
  intro p e s m below meth c s₁ hx hby hml hown hnm hret hlk hZ e0 X0
  show Go p e below _ s₁ (mkF m 0 #[.val (.int p1), .unset, .unset, .unset] [])
  refine Go.st (fun _ h => XS.iloadN X0.here hx rfl (hb hby at_0) rfl h) ?_
  show Go p e below _ s₁ (mkF m 1 #[.val (.int p1), .unset, .unset, .unset] [(.int p1)])
  refine Go.st (fun _ h => X0.ldcI hx hown (mvT hZ (hw _ (List.mem_of_getElem? (i := 0) rfl))) rfl (hb hby at_1) h) ?_
  show Go p e below _ s₁ (mkF m 3 #[.val (.int p1), .unset, .unset, .unset] [(.int (65535 : Int32)), (.int p1)])
  refine Go.st (fun _ h => XS.iand X0.here hx rfl (hb hby at_3) rfl h) ?_
  show Go p e below _ s₁ (mkF m 4 #[.val (.int p1), .unset, .unset, .unset] [(.int (p1 &&& (65535 : Int32)))])
  refine Go.st (fun _ h => XT.i2c X0.here hx rfl (hb hby at_4) rfl h) ?_
  show Go p e below _ s₁ (mkF m 5 #[.val (.int p1), .unset, .unset, .unset] [(.int ((p1 &&& (65535 : Int32)).toUInt32.toUInt16.toUInt32.toInt32))])
  refine Go.st (fun _ h => XS.istoreN X0.here hx rfl (hb hby at_5) rfl (l' := #[.val (.int p1), .val (.int ((p1 &&& (65535 : Int32)).toUInt32.toUInt16.toUInt32.toInt32)), .unset, .unset]) rfl h) ?_
  show Go p e below _ s₁ (mkF m 6 #[.val (.int p1), .val (.int ((p1 &&& (65535 : Int32)).toUInt32.toUInt16.toUInt32.toInt32)), .unset, .unset] [])
  refine Go.st (fun _ h => XS.iloadN X0.here hx rfl (hb hby at_6) rfl h) ?_
  show Go p e below _ s₁ (mkF m 7 #[.val (.int p1), .val (.int ((p1 &&& (65535 : Int32)).toUInt32.toUInt16.toUInt32.toInt32)), .unset, .unset] [(.int ((p1 &&& (65535 : Int32)).toUInt32.toUInt16.toUInt32.toInt32))])
  obtain ⟨T1, X1, e1, st1⟩ := own_still rfl rfl (Does.static (y := (⟨"com/example/billwright/billwright/Notation", "isDigit", "(C)Z"⟩ : MethodName)) (g := (mkF m 7 #[.val (.int p1), .val (.int ((p1 &&& (65535 : Int32)).toUInt32.toUInt16.toUInt32.toInt32)), .unset, .unset] [(.int ((p1 &&& (65535 : Int32)).toUInt32.toUInt16.toUInt32.toInt32))])) (rmDig l Z a0 hw ((p1 &&& (65535 : Int32)).toUInt32.toUInt16.toUInt32.toInt32) h0) X0 hx hZ hown e0 (hw _ (List.mem_of_getElem? (i := 1) rfl)) (hw _ (List.mem_of_getElem? (i := 2) rfl)) (hw _ (List.mem_of_getElem? (i := 3) rfl)) (hw _ (List.mem_of_getElem? (i := 4) rfl)) (by decide) rfl (by rw [hml]; rfl) (argsL := [(.int ((p1 &&& (65535 : Int32)).toUInt32.toUInt16.toUInt32.toInt32))]) (rest := []) (lenOf pd_28C29Z rfl) rfl (hb hby at_7) (W := 0) (by show 2 * 0 + _ ≤ _; exact Nat.le_of_eq rfl) (by decide) (by decide) (by decide) (by decide))
  refine Go.st st1 ?_
  show Go p e below _ T1 (mkF m 10 #[.val (.int p1), .val (.int ((p1 &&& (65535 : Int32)).toUInt32.toUInt16.toUInt32.toInt32)), .unset, .unset] [(.int (own_dig ((p1 &&& (65535 : Int32)).toUInt32.toUInt16.toUInt32.toInt32)))])
  refine Go.st (fun _ h => XS.iloadN X1.here hx rfl (hb hby at_10) rfl h) ?_
  show Go p e below _ T1 (mkF m 11 #[.val (.int p1), .val (.int ((p1 &&& (65535 : Int32)).toUInt32.toUInt16.toUInt32.toInt32)), .unset, .unset] [(.int ((p1 &&& (65535 : Int32)).toUInt32.toUInt16.toUInt32.toInt32)), (.int (own_dig ((p1 &&& (65535 : Int32)).toUInt32.toUInt16.toUInt32.toInt32)))])
  obtain ⟨T2, X2, e2, st2⟩ := own_still rfl rfl (Does.static (y := (⟨"com/example/billwright/billwright/NotationIsDigitPinLaw", "oneOfTheTen", "(C)Z"⟩ : MethodName)) (g := (mkF m 11 #[.val (.int p1), .val (.int ((p1 &&& (65535 : Int32)).toUInt32.toUInt16.toUInt32.toInt32)), .unset, .unset] [(.int ((p1 &&& (65535 : Int32)).toUInt32.toUInt16.toUInt32.toInt32)), (.int (own_dig ((p1 &&& (65535 : Int32)).toUInt32.toUInt16.toUInt32.toInt32)))])) (rmTen l Z a0 hw ((p1 &&& (65535 : Int32)).toUInt32.toUInt16.toUInt32.toInt32) h0) X1 hx hZ hown e1 (hw _ (List.mem_of_getElem? (i := 5) rfl)) (hw _ (List.mem_of_getElem? (i := 6) rfl)) (hw _ (List.mem_of_getElem? (i := 7) rfl)) (hw _ (List.mem_of_getElem? (i := 8) rfl)) (by decide) rfl (by rw [hml]; rfl) (argsL := [(.int ((p1 &&& (65535 : Int32)).toUInt32.toUInt16.toUInt32.toInt32))]) (rest := [(.int (own_dig ((p1 &&& (65535 : Int32)).toUInt32.toUInt16.toUInt32.toInt32)))]) (lenOf pd_28C29Z rfl) rfl (hb hby at_11) (W := 1) (by show 2 * 0 + _ ≤ _; exact Nat.le_of_eq rfl) (by decide) (by decide) (by decide) (by decide))
  refine Go.st st2 ?_
  show Go p e below _ T2 (mkF m 14 #[.val (.int p1), .val (.int ((p1 &&& (65535 : Int32)).toUInt32.toUInt16.toUInt32.toInt32)), .unset, .unset] [(.int (own_ten ((p1 &&& (65535 : Int32)).toUInt32.toUInt16.toUInt32.toInt32))), (.int (own_dig ((p1 &&& (65535 : Int32)).toUInt32.toUInt16.toUInt32.toInt32)))])
  refine Go.st (fun _ h => XS.icmpNo X2.here hx rfl (hb hby at_14) rfl ((teq (own_same _ : (own_dig ((p1 &&& (65535 : Int32)).toUInt32.toUInt16.toUInt32.toInt32)) = (own_ten ((p1 &&& (65535 : Int32)).toUInt32.toUInt16.toUInt32.toInt32)))).2) h) ?_
  show Go p e below _ T2 (mkF m 17 #[.val (.int p1), .val (.int ((p1 &&& (65535 : Int32)).toUInt32.toUInt16.toUInt32.toInt32)), .unset, .unset] [])
  refine Go.st (fun _ h => XT.iconstV X2.here hx rfl (1 : Int32) (hb hby at_17) (by decide) h) ?_
  show Go p e below _ T2 (mkF m 18 #[.val (.int p1), .val (.int ((p1 &&& (65535 : Int32)).toUInt32.toUInt16.toUInt32.toInt32)), .unset, .unset] [(.int (1 : Int32))])
  refine Go.st (fun _ h => XS.goto X2.here hx rfl (pc0 := 18) (pc' := 22) rfl (hb hby at_18) (by decide) (by decide) h) ?_
  show Go p e below _ T2 (mkF m 22 #[.val (.int p1), .val (.int ((p1 &&& (65535 : Int32)).toUInt32.toUInt16.toUInt32.toInt32)), .unset, .unset] [(.int (1 : Int32))])
  refine Go.st (fun _ h => XS.istoreN X2.here hx rfl (hb hby at_22) rfl (l' := #[.val (.int p1), .val (.int ((p1 &&& (65535 : Int32)).toUInt32.toUInt16.toUInt32.toInt32)), .val (.int (1 : Int32)), .unset]) rfl h) ?_
  show Go p e below _ T2 (mkF m 23 #[.val (.int p1), .val (.int ((p1 &&& (65535 : Int32)).toUInt32.toUInt16.toUInt32.toInt32)), .val (.int (1 : Int32)), .unset] [])
  refine Go.st (fun _ h => XT.bipushV X2.here hx rfl (48 : Int32) (hb hby at_23) (by decide) h) ?_
  show Go p e below _ T2 (mkF m 25 #[.val (.int p1), .val (.int ((p1 &&& (65535 : Int32)).toUInt32.toUInt16.toUInt32.toInt32)), .val (.int (1 : Int32)), .unset] [(.int (48 : Int32))])
  obtain ⟨T3, X3, e3, st3⟩ := own_still rfl rfl (Does.static (y := (⟨"com/example/billwright/billwright/Notation", "isDigit", "(C)Z"⟩ : MethodName)) (g := (mkF m 25 #[.val (.int p1), .val (.int ((p1 &&& (65535 : Int32)).toUInt32.toUInt16.toUInt32.toInt32)), .val (.int (1 : Int32)), .unset] [(.int (48 : Int32))])) (rmDig l Z a0 hw (48 : Int32) h0) X2 hx hZ hown e2 (hw _ (List.mem_of_getElem? (i := 1) rfl)) (hw _ (List.mem_of_getElem? (i := 2) rfl)) (hw _ (List.mem_of_getElem? (i := 3) rfl)) (hw _ (List.mem_of_getElem? (i := 4) rfl)) (by decide) rfl (by rw [hml]; rfl) (argsL := [(.int (48 : Int32))]) (rest := []) (lenOf pd_28C29Z rfl) rfl (hb hby at_25) (W := 0) (by show 2 * 0 + _ ≤ _; exact Nat.le_of_eq rfl) (by decide) (by decide) (by decide) (by decide))
  refine Go.st st3 ?_
  show Go p e below _ T3 (mkF m 28 #[.val (.int p1), .val (.int ((p1 &&& (65535 : Int32)).toUInt32.toUInt16.toUInt32.toInt32)), .val (.int (1 : Int32)), .unset] [(.int (own_dig (48 : Int32)))])
  refine Go.st (fun _ h => XS.ifNo X3.here hx rfl (hb hby at_28) rfl (by decide) h) ?_
  show Go p e below _ T3 (mkF m 31 #[.val (.int p1), .val (.int ((p1 &&& (65535 : Int32)).toUInt32.toUInt16.toUInt32.toInt32)), .val (.int (1 : Int32)), .unset] [])
  refine Go.st (fun _ h => XT.bipushV X3.here hx rfl (57 : Int32) (hb hby at_31) (by decide) h) ?_
  show Go p e below _ T3 (mkF m 33 #[.val (.int p1), .val (.int ((p1 &&& (65535 : Int32)).toUInt32.toUInt16.toUInt32.toInt32)), .val (.int (1 : Int32)), .unset] [(.int (57 : Int32))])
  obtain ⟨T4, X4, e4, st4⟩ := own_still rfl rfl (Does.static (y := (⟨"com/example/billwright/billwright/Notation", "isDigit", "(C)Z"⟩ : MethodName)) (g := (mkF m 33 #[.val (.int p1), .val (.int ((p1 &&& (65535 : Int32)).toUInt32.toUInt16.toUInt32.toInt32)), .val (.int (1 : Int32)), .unset] [(.int (57 : Int32))])) (rmDig l Z a0 hw (57 : Int32) h0) X3 hx hZ hown e3 (hw _ (List.mem_of_getElem? (i := 1) rfl)) (hw _ (List.mem_of_getElem? (i := 2) rfl)) (hw _ (List.mem_of_getElem? (i := 3) rfl)) (hw _ (List.mem_of_getElem? (i := 4) rfl)) (by decide) rfl (by rw [hml]; rfl) (argsL := [(.int (57 : Int32))]) (rest := []) (lenOf pd_28C29Z rfl) rfl (hb hby at_33) (W := 0) (by show 2 * 0 + _ ≤ _; exact Nat.le_of_eq rfl) (by decide) (by decide) (by decide) (by decide))
  refine Go.st st4 ?_
  show Go p e below _ T4 (mkF m 36 #[.val (.int p1), .val (.int ((p1 &&& (65535 : Int32)).toUInt32.toUInt16.toUInt32.toInt32)), .val (.int (1 : Int32)), .unset] [(.int (own_dig (57 : Int32)))])
  refine Go.st (fun _ h => XS.ifNo X4.here hx rfl (hb hby at_36) rfl (by decide) h) ?_
  show Go p e below _ T4 (mkF m 39 #[.val (.int p1), .val (.int ((p1 &&& (65535 : Int32)).toUInt32.toUInt16.toUInt32.toInt32)), .val (.int (1 : Int32)), .unset] [])
  refine Go.st (fun _ h => XT.bipushV X4.here hx rfl (47 : Int32) (hb hby at_39) (by decide) h) ?_
  show Go p e below _ T4 (mkF m 41 #[.val (.int p1), .val (.int ((p1 &&& (65535 : Int32)).toUInt32.toUInt16.toUInt32.toInt32)), .val (.int (1 : Int32)), .unset] [(.int (47 : Int32))])
  obtain ⟨T5, X5, e5, st5⟩ := own_still rfl rfl (Does.static (y := (⟨"com/example/billwright/billwright/Notation", "isDigit", "(C)Z"⟩ : MethodName)) (g := (mkF m 41 #[.val (.int p1), .val (.int ((p1 &&& (65535 : Int32)).toUInt32.toUInt16.toUInt32.toInt32)), .val (.int (1 : Int32)), .unset] [(.int (47 : Int32))])) (rmDig l Z a0 hw (47 : Int32) h0) X4 hx hZ hown e4 (hw _ (List.mem_of_getElem? (i := 1) rfl)) (hw _ (List.mem_of_getElem? (i := 2) rfl)) (hw _ (List.mem_of_getElem? (i := 3) rfl)) (hw _ (List.mem_of_getElem? (i := 4) rfl)) (by decide) rfl (by rw [hml]; rfl) (argsL := [(.int (47 : Int32))]) (rest := []) (lenOf pd_28C29Z rfl) rfl (hb hby at_41) (W := 0) (by show 2 * 0 + _ ≤ _; exact Nat.le_of_eq rfl) (by decide) (by decide) (by decide) (by decide))
  refine Go.st st5 ?_
  show Go p e below _ T5 (mkF m 44 #[.val (.int p1), .val (.int ((p1 &&& (65535 : Int32)).toUInt32.toUInt16.toUInt32.toInt32)), .val (.int (1 : Int32)), .unset] [(.int (own_dig (47 : Int32)))])
  refine Go.st (fun _ h => XS.ifNo X5.here hx rfl (hb hby at_44) rfl (by decide) h) ?_
  show Go p e below _ T5 (mkF m 47 #[.val (.int p1), .val (.int ((p1 &&& (65535 : Int32)).toUInt32.toUInt16.toUInt32.toInt32)), .val (.int (1 : Int32)), .unset] [])
  refine Go.st (fun _ h => XT.bipushV X5.here hx rfl (58 : Int32) (hb hby at_47) (by decide) h) ?_
  show Go p e below _ T5 (mkF m 49 #[.val (.int p1), .val (.int ((p1 &&& (65535 : Int32)).toUInt32.toUInt16.toUInt32.toInt32)), .val (.int (1 : Int32)), .unset] [(.int (58 : Int32))])
  obtain ⟨T6, X6, e6, st6⟩ := own_still rfl rfl (Does.static (y := (⟨"com/example/billwright/billwright/Notation", "isDigit", "(C)Z"⟩ : MethodName)) (g := (mkF m 49 #[.val (.int p1), .val (.int ((p1 &&& (65535 : Int32)).toUInt32.toUInt16.toUInt32.toInt32)), .val (.int (1 : Int32)), .unset] [(.int (58 : Int32))])) (rmDig l Z a0 hw (58 : Int32) h0) X5 hx hZ hown e5 (hw _ (List.mem_of_getElem? (i := 1) rfl)) (hw _ (List.mem_of_getElem? (i := 2) rfl)) (hw _ (List.mem_of_getElem? (i := 3) rfl)) (hw _ (List.mem_of_getElem? (i := 4) rfl)) (by decide) rfl (by rw [hml]; rfl) (argsL := [(.int (58 : Int32))]) (rest := []) (lenOf pd_28C29Z rfl) rfl (hb hby at_49) (W := 0) (by show 2 * 0 + _ ≤ _; exact Nat.le_of_eq rfl) (by decide) (by decide) (by decide) (by decide))
  refine Go.st st6 ?_
  show Go p e below _ T6 (mkF m 52 #[.val (.int p1), .val (.int ((p1 &&& (65535 : Int32)).toUInt32.toUInt16.toUInt32.toInt32)), .val (.int (1 : Int32)), .unset] [(.int (own_dig (58 : Int32)))])
  refine Go.st (fun _ h => XS.ifNo X6.here hx rfl (hb hby at_52) rfl (by decide) h) ?_
  show Go p e below _ T6 (mkF m 55 #[.val (.int p1), .val (.int ((p1 &&& (65535 : Int32)).toUInt32.toUInt16.toUInt32.toInt32)), .val (.int (1 : Int32)), .unset] [])
  refine Go.st (fun _ h => XT.iconstV X6.here hx rfl (1 : Int32) (hb hby at_55) (by decide) h) ?_
  show Go p e below _ T6 (mkF m 56 #[.val (.int p1), .val (.int ((p1 &&& (65535 : Int32)).toUInt32.toUInt16.toUInt32.toInt32)), .val (.int (1 : Int32)), .unset] [(.int (1 : Int32))])
  refine Go.st (fun _ h => XS.goto X6.here hx rfl (pc0 := 56) (pc' := 60) rfl (hb hby at_56) (by decide) (by decide) h) ?_
  show Go p e below _ T6 (mkF m 60 #[.val (.int p1), .val (.int ((p1 &&& (65535 : Int32)).toUInt32.toUInt16.toUInt32.toInt32)), .val (.int (1 : Int32)), .unset] [(.int (1 : Int32))])
  refine Go.st (fun _ h => XS.istoreN X6.here hx rfl (hb hby at_60) rfl (l' := #[.val (.int p1), .val (.int ((p1 &&& (65535 : Int32)).toUInt32.toUInt16.toUInt32.toInt32)), .val (.int (1 : Int32)), .val (.int (1 : Int32))]) rfl h) ?_
  show Go p e below _ T6 (mkF m 61 #[.val (.int p1), .val (.int ((p1 &&& (65535 : Int32)).toUInt32.toUInt16.toUInt32.toInt32)), .val (.int (1 : Int32)), .val (.int (1 : Int32))] [])
  refine Go.st (fun _ h => XS.iloadN X6.here hx rfl (hb hby at_61) rfl h) ?_
  show Go p e below _ T6 (mkF m 62 #[.val (.int p1), .val (.int ((p1 &&& (65535 : Int32)).toUInt32.toUInt16.toUInt32.toInt32)), .val (.int (1 : Int32)), .val (.int (1 : Int32))] [(.int (1 : Int32))])
  refine Go.st (fun _ h => XS.ifNo X6.here hx rfl (hb hby at_62) rfl (by decide) h) ?_
  show Go p e below _ T6 (mkF m 65 #[.val (.int p1), .val (.int ((p1 &&& (65535 : Int32)).toUInt32.toUInt16.toUInt32.toInt32)), .val (.int (1 : Int32)), .val (.int (1 : Int32))] [])
  refine Go.st (fun _ h => XS.iloadN X6.here hx rfl (hb hby at_65) rfl h) ?_
  show Go p e below _ T6 (mkF m 66 #[.val (.int p1), .val (.int ((p1 &&& (65535 : Int32)).toUInt32.toUInt16.toUInt32.toInt32)), .val (.int (1 : Int32)), .val (.int (1 : Int32))] [(.int (1 : Int32))])
  refine Go.st (fun _ h => XS.ifNo X6.here hx rfl (hb hby at_66) rfl (by decide) h) ?_
  show Go p e below _ T6 (mkF m 69 #[.val (.int p1), .val (.int ((p1 &&& (65535 : Int32)).toUInt32.toUInt16.toUInt32.toInt32)), .val (.int (1 : Int32)), .val (.int (1 : Int32))] [])
  refine Go.st (fun _ h => XT.iconstV X6.here hx rfl (1 : Int32) (hb hby at_69) (by decide) h) ?_
  show Go p e below _ T6 (mkF m 70 #[.val (.int p1), .val (.int ((p1 &&& (65535 : Int32)).toUInt32.toUInt16.toUInt32.toInt32)), .val (.int (1 : Int32)), .val (.int (1 : Int32))] [(.int (1 : Int32))])
  refine Go.st (fun _ h => XS.goto X6.here hx rfl (pc0 := 70) (pc' := 74) rfl (hb hby at_70) (by decide) (by decide) h) ?_
  show Go p e below _ T6 (mkF m 74 #[.val (.int p1), .val (.int ((p1 &&& (65535 : Int32)).toUInt32.toUInt16.toUInt32.toInt32)), .val (.int (1 : Int32)), .val (.int (1 : Int32))] [(.int (1 : Int32))])
  refine Go.retZ X6 hx hlk hret rfl (hb hby at_74) (by decide) (by decide) ?_
  exact ⟨rfl, Fr.nil _⟩
set_option maxRecDepth 65536 in
set_option maxHeartbeats 40000000 in
theorem comes_1 {Post : Tables → Env → Array Value → State → Outcome → State → Prop} (hpost : ∀ tb e args s v u, (limb_1_1.after args s (.returned v) u = true ∧ limb_1_2.after args s (.returned v) u = true ∧ True) → FrameEnd s (.returned v) u (Jvm.fieldLocs frame_1_writes args s ++ Jvm.arrayLocs frame_1_arrays args s ++ Jvm.staticLocs frame_1_statics s) 0 0 → Post tb e args s (.returned v) u) :
    ArmFor flags0 classFile x code maxLocals ret World_1 tables_1 room_1 Calls_1 rest_1 Pre_1 Post := by
  intro l hfl _ _ p e ha hc hk s m args below hf hA hF happ hP
  obtain ⟨hcalls, hrest, hpre⟩ := hP
  obtain ⟨-, -, -, hnamed, -, -, -, hat⟩ := (Spec.applies_iff hf).mp happ
  obtain ⟨hg, hn⟩ := and_e (Cond.before_iff.mp (show (Jvm.Cond.and given_1 narrow_1).before args s = true from hpre))
  obtain ⟨g0, hg⟩ := and_e hg
  obtain ⟨w0, rfl⟩ : ∃ w0 : Value, args = #[w0] := by
    have hs : args.size = 1 := by simpa [Cond.value, given_1] using g0
    obtain ⟨L⟩ := args
    match L, hs with
    | [w0], _ => exact ⟨w0, rfl⟩
  have hw := fun d (hd : d ∈ tables_1) => atoms_spec (ws := Jvm.Cond.code x code maxLocals ret :: tables_1) hat d (List.mem_cons_of_mem _ hd)
  have hfit : Fit s := fun {y c} hc i hi => by
    obtain ⟨ha, rfl⟩ := Array.getElem?_eq_some_iff.mp hc
    have q := List.all_eq_true.mp ((Array.all_eq_true_iff_forall_mem.mp hF) _ (Array.getElem_mem ha)) i (List.mem_range.mpr hi)
    simpa [Array.getElem?_eq_getElem hi] using q
  obtain ⟨i0, q0⟩ := is_v hg
  obtain rfl : w0 = (.int i0) := Option.some.inj q0
  obtain ⟨n, o, h1, h2, h3, v, L, rfl, hP, hq⟩ := rmLaw l s _ hw i0 s.heap s.heap.size p e ha hc hk s m _ below hf ((Spec.applies_iff_loose hf).mp happ).1 ⟨rfl, State.Warmed39.refl s, rfl⟩ trivial
  obtain ⟨rfl, N⟩ := hP
  refine ⟨n, _, h1, h2, h3, hpost _ _ _ _ _ _ ⟨Cond.after_iff.mpr rfl, Cond.after_iff.mpr (eq_i res_at (Term.int_eval (1)) rfl), trivial⟩ ⟨hq.1, hq.2.1, (hq.2.2.sift fun y hy => Or.inr (N y hy)).mono (by decide) (by decide)⟩⟩
theorem main_1_1 : Claimed_1_1 := comes_1 fun _ _ _ _ _ _ h hF => ⟨h.1, hF⟩
theorem main_1_2 : Claimed_1_2 := comes_1 fun _ _ _ _ _ _ h hF => ⟨h.2.1, hF⟩
end Jvm.Pilot.@@N@@
namespace Jvm.Pilot.@@N@@
open Jvm Jvm.ClassFile Sem Op Lib Jvm.Free Jvm.Stand Jvm.Pilot.@@N@@.Jvm.D
/-! MADE BY PROGRAM (witnessworld.py) out of the Statement's table words and the real class files: 9 classes; the members and pool entries that the words name. The judged class is class 1, her method 2. -/
namespace start1
open Jvm.ClassFile
def u (s : String) : CpInfo := .utf8 (stringToUtf16 s)
/-- a pool by its gaps: so many unusable entries, then the entry; so many at the end -/
def gap : Nat → List CpInfo → List CpInfo
  | 0, r => r
  | n + 1, r => .unusable :: gap n r
def poolList (es : List (Nat × CpInfo)) (last : Nat) : List CpInfo := es.foldr (fun e r => gap e.1 (e.2 :: r)) (gap last [])
def pool (es : List (Nat × CpInfo)) (last : Nat) : Array CpInfo := ⟨poolList es last⟩
def fileOf (pool : Array CpInfo) (this : Nat) (attrs : Array Attribute := #[]) (ms : Array MethodInfo := #[]) (fl : Nat := 33) (sup : Nat := 0) (ifs : Array Nat := #[]) (fds : Array FieldInfo := #[]) : ClassFile where
  minorVersion := 0
  majorVersion := 65
  constantPool := pool
  accessFlags := fl
  thisClass := this
  superClass := sup
  interfaces := ifs
  fields := fds
  methods := ms
  attributes := attrs
def plain (name : String) (sup : Option ClassId) : Class where
  name := name
  kind := .ordinary
  loader := none
  accessFlags := 33
  super := sup
  interfaces := #[]
  cf := none
  fields := #[]
  methods := #[]
  instanceTypes := #[]
  staticTypes := #[]
  resolved := #[]
  callSites := []
  init := .initialized
  statics := none
  mirror := none

def pool0 : Array CpInfo := pool [(5, u "<init>"), (0, u "()V"), (1, .class_ 10), (1, u "java/lang/Object")] 113

def k0m0 : Method := { name := "<init>", desc := "()V", sig := { parameters := [], returnType := none }, accessFlags := 1, code := none }
/-- java/lang/Object -/
def k0 : Class := { plain "java/lang/Object" none with
  accessFlags := 33
  interfaces := #[]
  cf := some (fileOf pool0 8 #[] #[{ accessFlags := 1, nameIndex := 5, descriptorIndex := 6, attributes := #[] }] 33 0 #[] #[])
  fields := #[]
  methods := #[k0m0]
  instanceTypes := #[]
  staticTypes := #[]
  resolved := Array.replicate 124 none
  statics := none }

def pool1 : Array CpInfo := pool [(2, .class_ 4), (1, u "java/lang/Object"), (0, u "<init>"), (0, u "()V"), (0, .integer 65535), (0, .methodref 9 10), (0, .class_ 11), (0, .nameAndType 12 13), (0, u "com/example/billwright/billwright/Notation"), (0, u "isDigit"), (0, u "(C)Z"), (0, .methodref 15 16), (0, .class_ 17), (0, .nameAndType 18 13), (0, u "com/example/billwright/billwright/NotationIsDigitPinLaw"), (0, u "oneOfTheTen"), (3, u "law"), (0, u "(I)Z")] 2

def k1m0 : Method := { name := "<init>", desc := "()V", sig := { parameters := [], returnType := none }, accessFlags := 2, code := none }
def k1c1 : Code := { maxStack := 2, maxLocals := 1, code := method_2_code, exceptionTable := #[], attributes := #[] }
def k1m1 : Method := { name := "oneOfTheTen", desc := "(C)Z", sig := { parameters := [.char], returnType := some .boolean }, accessFlags := 10, code := some k1c1 }
def k1c2 : Code := { maxStack := 2, maxLocals := 4, code := code, exceptionTable := #[], attributes := #[] }
def k1m2 : Method := { name := "law", desc := "(I)Z", sig := { parameters := [.int], returnType := some .boolean }, accessFlags := 9, code := some k1c2 }
/-- com/example/billwright/billwright/NotationIsDigitPinLaw -/
def k1 : Class := { plain "com/example/billwright/billwright/NotationIsDigitPinLaw" (some 0) with
  accessFlags := 49
  interfaces := #[]
  cf := some (fileOf pool1 15 #[] #[{ accessFlags := 2, nameIndex := 5, descriptorIndex := 6, attributes := #[] }, { accessFlags := 10, nameIndex := 18, descriptorIndex := 13, attributes := #[] }, { accessFlags := 9, nameIndex := 22, descriptorIndex := 23, attributes := #[] }] 49 2 #[] #[])
  fields := #[]
  methods := #[k1m0, k1m1, k1m2]
  instanceTypes := #[]
  staticTypes := #[]
  resolved := Array.replicate 26 none
  statics := none }

def pool2 : Array CpInfo := pool [(2, .class_ 4), (1, u "java/lang/Object"), (0, u "<init>"), (0, u "()V"), (4, .class_ 13), (1, u "com/example/billwright/billwright/Notation"), (62, u "isDigit"), (0, u "(C)Z"), (31, u "UNSEEN"), (0, u "Ljava/util/regex/Pattern;"), (83, u "MOST_DIGITS"), (0, u "I"), (2, u "MONTH_HYPHEN"), (1, u "DAY_HYPHEN"), (1, u "DATE_LENGTH"), (1, u "LONG_DIGITS"), (0, u "MOST_QUOTED")] 67

def k2m0 : Method := { name := "<init>", desc := "()V", sig := { parameters := [], returnType := none }, accessFlags := 2, code := none }
def k2c1 : Code := { maxStack := 2, maxLocals := 1, code := prog_45_method_8_code, exceptionTable := #[], attributes := #[] }
def k2m1 : Method := { name := "isDigit", desc := "(C)Z", sig := { parameters := [.char], returnType := some .boolean }, accessFlags := 8, code := some k2c1 }
/-- com/example/billwright/billwright/Notation -/
def k2 : Class := { plain "com/example/billwright/billwright/Notation" (some 0) with
  accessFlags := 32
  interfaces := #[]
  cf := some (fileOf pool2 11 #[] #[{ accessFlags := 2, nameIndex := 5, descriptorIndex := 6, attributes := #[] }, { accessFlags := 8, nameIndex := 76, descriptorIndex := 77, attributes := #[] }] 32 2 #[] #[{ accessFlags := 24, nameIndex := 194, descriptorIndex := 195, attributes := #[] }, { accessFlags := 26, nameIndex := 198, descriptorIndex := 195, attributes := #[] }, { accessFlags := 26, nameIndex := 200, descriptorIndex := 195, attributes := #[] }, { accessFlags := 26, nameIndex := 202, descriptorIndex := 195, attributes := #[] }, { accessFlags := 26, nameIndex := 204, descriptorIndex := 195, attributes := #[] }, { accessFlags := 26, nameIndex := 205, descriptorIndex := 195, attributes := #[] }, { accessFlags := 26, nameIndex := 109, descriptorIndex := 110, attributes := #[] }])
  fields := #[{ name := "MOST_DIGITS", type := .int, accessFlags := 24, slot := 0, constantValue := 0 }, { name := "MONTH_HYPHEN", type := .int, accessFlags := 26, slot := 1, constantValue := 0 }, { name := "DAY_HYPHEN", type := .int, accessFlags := 26, slot := 2, constantValue := 0 }, { name := "DATE_LENGTH", type := .int, accessFlags := 26, slot := 3, constantValue := 0 }, { name := "LONG_DIGITS", type := .int, accessFlags := 26, slot := 4, constantValue := 0 }, { name := "MOST_QUOTED", type := .int, accessFlags := 26, slot := 5, constantValue := 0 }, { name := "UNSEEN", type := (.object "java/util/regex/Pattern"), accessFlags := 26, slot := 6, constantValue := 0 }]
  methods := #[k2m0, k2m1]
  instanceTypes := #[]
  staticTypes := #[.int, .int, .int, .int, .int, .int, (.object "java/util/regex/Pattern")]
  resolved := Array.replicate 273 none
  statics := none }

def pool3 : Array CpInfo := pool [(1, u "java/lang/Cloneable"), (0, .class_ 1), (0, u "java/lang/Object"), (0, .class_ 3)] 3

/-- java/lang/Cloneable -/
def k3 : Class := { plain "java/lang/Cloneable" (some 0) with
  accessFlags := 1537
  interfaces := #[]
  cf := some (fileOf pool3 2 #[] #[] 1537 4 #[] #[])
  fields := #[]
  methods := #[]
  instanceTypes := #[]
  staticTypes := #[]
  resolved := Array.replicate 8 none
  statics := none }

def pool4 : Array CpInfo := pool [(1, u "java/io/Serializable"), (0, .class_ 1), (0, u "java/lang/Object"), (0, .class_ 3)] 3

/-- java/io/Serializable -/
def k4 : Class := { plain "java/io/Serializable" (some 0) with
  accessFlags := 1537
  interfaces := #[]
  cf := some (fileOf pool4 2 #[] #[] 1537 4 #[] #[])
  fields := #[]
  methods := #[]
  instanceTypes := #[]
  staticTypes := #[]
  resolved := Array.replicate 8 none
  statics := none }

/-- the primitive byte -/
def k5 : Class := { plain "byte" none with kind := .primitive 'B', accessFlags := 0x411 }
/-- [B -/
def k6 : Class := { plain "[B" (some 0) with kind := .array 5 .byte, interfaces := #[3, 4], accessFlags := 1041 }

/-- the primitive int -/
def k7 : Class := { plain "int" none with kind := .primitive 'I', accessFlags := 0x411 }
/-- [I -/
def k8 : Class := { plain "[I" (some 0) with kind := .array 7 .int, interfaces := #[3, 4], accessFlags := 1041 }

def heap : Heap := #[]
def classes : Array Class := #[k0, k1, k2, k3, k4, k5, k6, k7, k8]
def interned : List (Array UInt16 × Addr) := []
def slotsUsed : Nat := 0
def theMethod : MethodId := ⟨1, 2⟩
def args0 : Array Value := #[.int 5]
def aboutOver (below : List Frame) : State where
  vm := { classes := classes, interned := interned.toArray }
  heap := heap
  slotsUsed := slotsUsed
  threads := #[{ frames := .invoking theMethod args0 :: below }]
def below0 : List Frame := [.native { method := ⟨0, 0⟩, args := #[] }]
def about1 : State := aboutOver below0
def p0 : Program := .bare "" "" ""
def e0 : Env := launch0.env 0 0 0
theorem w_frames : about1.frames = Frame.invoking theMethod args0 :: below0 := rfl
set_option maxRecDepth 65536 in
theorem w_args : argsFit about1.vm theMethod args0 = true := by decide +kernel
set_option maxRecDepth 65536 in
theorem w_heap : heapFits about1 = true := by decide +kernel
set_option maxRecDepth 65536 in
theorem w_runnable : about1.curStatus? = some .runnable := by decide +kernel
set_option maxRecDepth 65536 in
theorem w_alone : about1.alone = true := by decide +kernel
set_option maxRecDepth 65536 in
theorem w_named : about1.methodNamed? x = some theMethod := by decide +kernel
set_option maxRecDepth 65536 in
theorem w_hears : about1.hears theMethod below0 = true := by decide +kernel
set_option maxRecDepth 65536 in
theorem w_ripe : about1.ripe theMethod args0 below0 = true := by decide +kernel
theorem w_running : about1.status = .running := rfl
set_option maxRecDepth 65536 in
theorem w_room : about1.hasRoom e0.platform room_1 = true :=
  launch0.hasRoom_least _ room_1 (by decide +kernel) (by decide +kernel) (by decide +kernel) (by decide +kernel) (by decide +kernel) (by decide +kernel)
theorem allAtoms_all (ts : List Jvm.Cond) (a : Array Jvm.Value) (st : Jvm.State) : (allAtoms ts).before a st = ts.all (fun c => c.before a st) := by
  induction ts with
  | nil => rfl
  | cons c t ih =>
    show (Jvm.Cond.and c (allAtoms t)).before a st = _
    rw [Jvm.Cond.before_and, ih, List.all_cons]
def words1 : List Jvm.Cond := Jvm.Cond.code x code maxLocals ret :: tables_1
/-- a 'code' word, met by the world's own term for the bytes: nothing is compared byte by byte -/
theorem code_word {y : MethodName} {bytes : ByteArray} {mx : Nat} {rt : Option FieldType} {a : Array Value} {s : State} {m : MethodId} {meth : Method} {c : Code} (h1 : s.methodNamed? y = some m) (h2 : s.vm.method? m = some meth) (h3 : meth.code = some c) (h4 : c.code = bytes)
    (h5 : (c.maxLocals == mx && c.exceptionTable.isEmpty && decide (c.maxStack ≤ mostOperands) && decide (meth.sig.returnType = rt) && !meth.locks && decide (parseMethodDescriptor y.desc = some meth.sig)) = true) : (Jvm.Cond.code y bytes mx rt).before a s = true := by
  simp only [Bool.and_eq_true, beq_iff_eq, Bool.not_eq_true', decide_eq_true_eq] at h5
  obtain ⟨⟨⟨⟨⟨g1, g2⟩, g3⟩, g4⟩, g5⟩, g6⟩ := h5
  simp [Cond.before, Cond.holds, Cond.value, h1, h2, h3, h4, g1, g2, g3, g4, g5, g6]
def isCode : Jvm.Cond → Bool
  | .code _ _ _ _ => true
  | _ => false
theorem all_split {L : List Jvm.Cond} {P : Jvm.Cond → Bool} (h1 : L.all (fun c => isCode c || P c) = true) (h2 : ∀ c ∈ L.filter isCode, P c = true) : L.all P = true := by
  refine List.all_eq_true.mpr fun c hc => ?_
  have h := List.all_eq_true.mp h1 c hc
  rcases Bool.eq_false_or_eq_true (isCode c) with hi | hi
  · exact h2 c (List.mem_filter.mpr ⟨hc, hi⟩)
  · simpa [hi] using h
set_option maxRecDepth 65536 in
theorem w_c0 : (Jvm.Cond.code x code maxLocals ret).before args0 about1 = true := code_word (m := ⟨1, 2⟩) (meth := k1m2) (c := k1c2) (by decide +kernel) rfl rfl rfl (by decide +kernel)
set_option maxRecDepth 65536 in
theorem w_c1 : (Jvm.Cond.code ({ cls := "com/example/billwright/billwright/Notation", name := "isDigit", desc := "(C)Z" } : Jvm.MethodName) prog_45_method_8_code (1 : Nat) (Option.some Jvm.ClassFile.FieldType.boolean)).before args0 about1 = true := code_word (m := ⟨2, 1⟩) (meth := k2m1) (c := k2c1) (by decide +kernel) rfl rfl rfl (by decide +kernel)
set_option maxRecDepth 65536 in
theorem w_c2 : (Jvm.Cond.code ({ cls := "com/example/billwright/billwright/NotationIsDigitPinLaw", name := "oneOfTheTen", desc := "(C)Z" } : Jvm.MethodName) method_2_code (1 : Nat) (Option.some Jvm.ClassFile.FieldType.boolean)).before args0 about1 = true := code_word (m := ⟨1, 1⟩) (meth := k1m1) (c := k1c1) (by decide +kernel) rfl rfl rfl (by decide +kernel)
def codes1 : List Jvm.Cond := [Jvm.Cond.code x code maxLocals ret, Jvm.Cond.code ({ cls := "com/example/billwright/billwright/Notation", name := "isDigit", desc := "(C)Z" } : Jvm.MethodName) prog_45_method_8_code (1 : Nat) (Option.some Jvm.ClassFile.FieldType.boolean), Jvm.Cond.code ({ cls := "com/example/billwright/billwright/NotationIsDigitPinLaw", name := "oneOfTheTen", desc := "(C)Z" } : Jvm.MethodName) method_2_code (1 : Nat) (Option.some Jvm.ClassFile.FieldType.boolean)]
set_option maxRecDepth 65536 in
theorem codes_eq : words1.filter isCode = codes1 := rfl
theorem w_codes : ∀ c ∈ words1.filter isCode, c.before args0 about1 = true := by
  rw [codes_eq]
  intro c hc
  simp only [codes1, List.mem_cons, List.not_mem_nil, or_false] at hc
  rcases hc with rfl | rfl | rfl
  · exact w_c0
  · exact w_c1
  · exact w_c2
set_option maxRecDepth 65536 in
theorem w_t1 : words1.all (fun c => isCode c || c.before args0 about1) = true := by decide +kernel
theorem w_tables : (allAtoms (Jvm.Cond.code x code maxLocals ret :: tables_1)).before args0 about1 = true := by
  rw [allAtoms_all]
  show words1.all (fun c => c.before args0 about1) = true
  refine all_split ?_ w_codes
  rw [w_t1]
set_option maxRecDepth 65536 in
theorem w_case : (Jvm.Cond.and given_1 narrow_1).before args0 about1 = true := by decide +kernel
theorem w_applies : (headSpec (Jvm.Cond.code x code maxLocals ret :: tables_1) room_1).applies x e0.platform about1 = true :=
  (Spec.applies_iff w_frames).mpr ⟨w_running, w_runnable, w_alone, w_named, w_hears, w_ripe, w_room, w_tables⟩
theorem atStart : AtStart classFile x code maxLocals ret World_1 tables_1 room_1 Calls_1 rest_1 Pre_1 launch0 p0 e0 about1 theMethod args0 below0 :=
  ⟨lists_1, trivial, launch0.admits_env _ _ _, launch0.least_env, fairChoices_fair.cas, fairChoices_fair.clock, w_frames, w_args, w_heap, w_applies, trivial, trivial, w_case⟩
end start1
theorem witness_1 : WitnessClaimed_1 := ⟨start1.p0, start1.e0, start1.about1, start1.theMethod, start1.args0, start1.below0, start1.atStart⟩
end Jvm.Pilot.@@N@@
