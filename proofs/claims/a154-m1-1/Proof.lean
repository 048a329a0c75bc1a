import JvmDerived
import JvmDerived.Pilot.@@N@@Statement
import JvmDerived.Pilot.@@N@@Code
set_option linter.unusedVariables false
set_option linter.unusedSimpArgs false
namespace Jvm.Pilot.@@N@@
open Jvm Jvm.ClassFile Sem Op Lib Jvm.Free Jvm.Stand Jvm.LawKit Jvm.RoadKit Bundle Jvm.Pilot.@@N@@.Jvm.D
/-! own: a walk carried forward as a goal, with forks -/
def o_G (p : Program) (e : Env) (below : List Frame) (s : State) (Q : Option Value → Heap → List Loc → Prop) (C S : Nat) (T : State) (f : JFrame) : Prop :=
  ∃ s₂ o, Steps p.tables e below (T.setTop f) s₂ ∧ s₂.status = .running ∧ Ended s₂ below o ∧ ∃ v L, o = .returned v ∧ Q v s₂.heap L ∧ FrameEnd s o s₂ L C S
abbrev o_C0 (l : Launch) (y : MethodName) (bytes : ByteArray) (maxL : Nat) (ret : Option FieldType) (ws : List Jvm.Cond) (rm : Room) (Z : State) (h : Heap) (as' : Array Value) (Q : Option Value → Heap → List Loc → Prop) (C S : Nat) : Prop :=
  MetFree l y (head1 (Jvm.Cond.code y bytes maxL ret :: ws) rm) (fun a U => a = as' ∧ Z.Warmed39 U.vm ∧ U.heap = h) (fun _ _ _ _ _ => True) (fun _ U o U' => ∃ v L, o = .returned v ∧ Q v U'.heap L ∧ FrameEnd U o U' L C S)
abbrev o_C (l : Launch) (y : MethodName) (bytes : ByteArray) (maxL : Nat) (ret : Option FieldType) (rm : Room) (Z : State) (h : Heap) (as' : Array Value) (Q : Option Value → Heap → List Loc → Prop) : Prop :=
  o_C0 l y bytes maxL ret [] rm Z h as' Q rm.cells rm.slots
/-- what a body says that writes nothing: its value -/
def o_P (r : Option Value) (h0 : Heap) (v : Option Value) (h : Heap) (L : List Loc) : Prop := v = r ∧ L = [] ∧ h = h0
abbrev o_R (f c n k : Nat) : Room := { frames := f, cells := c, slots := n, locals := k }
theorem o_body {l : Launch} {y : MethodName} {bytes : ByteArray} {maxL : Nat} {ret : Option FieldType} {ws : List Jvm.Cond} {rm : Room} {Z : State} {h0 : Heap} {as' : Array Value} {Q : Option Value → Heap → List Loc → Prop} {C S : Nat} (hpn : plainFor y = true)
    (body : ∀ p e s m below meth c s₁, p.tables.exec = Jvm.exec → c.code = bytes → c.maxLocals = maxL → Z.Warmed39 s.vm → s.vm.findClass y.cls = some m.cls → meth.name = y.name → meth.sig.returnType = ret → meth.locks = false →
      Stand p l e rm s m as' below meth c s₁ [] 0 0 → s₁.heap = h0 → o_G p e below s Q C S s₁ (entryFrame m as' maxL)) : o_C0 l y bytes maxL ret ws rm Z h0 as' Q C S := by
  refine MetFree.of_bodySF hpn hisR ?_
  intro p e s m args below meth c s₁ Bd hml hP hK
  obtain ⟨rfl, hZ, hh⟩ := hP
  exact body p e s m below meth c s₁ Bd.exec Bd.bytes hml hZ (findClass_of_methodNamed Bd.named) (name_of_methodNamed Bd.named Bd.method).1 Bd.returns Bd.notSynchronized (Stand.of_body Bd) (by rw [← hh, Bd.state]; rfl)
section Own
variable {p : Program} {l : Launch} {e : Env} {R : Room} {s : State} {m : MethodId} {args : Array Value} {below : List Frame} {meth : Method} {c : Code} {T T' : State} {locs : List Loc} {cells slots : Nat} {Q : Option Value → Heap → List Loc → Prop} {C S : Nat} {f f' : JFrame} {Z : State} {a0 : Array Value} {h : Heap}
theorem o_st (k : ∀ target, Steps p.tables e below (T'.setTop f') target → Steps p.tables e below (T.setTop f) target) (g : o_G p e below s Q C S T' f') : o_G p e below s Q C S T f := by
  obtain ⟨t, o, h1, h2⟩ := g
  exact ⟨t, o, k t h1, h2⟩
theorem o_q (T' : State) (f' : JFrame) (k : ∀ target, Steps p.tables e below (T'.setTop f') target → Steps p.tables e below (T.setTop f) target) (g : o_G p e below s Q C S T' f') : o_G p e below s Q C S T f := o_st k g
theorem o_cast (q : f = f') (g : o_G p e below s Q C S T f') : o_G p e below s Q C S T f := q ▸ g
theorem o_end {v : Option Value} (X : Stand p l e R s m args below meth c T locs cells slots) (hlk : meth.locks = false) (hv : meth.sig.returnType = none → v = none)
    (k : ∀ fs, (∀ (f : JFrame) (acts : List Action), f.method = m → f.locked = none → f.entered = [] → (doReturn e (T.setTop f) acts v).1 = T.setFrames fs) → Steps p.tables e below (T.setTop f) (T.setFrames fs))
    (hq : Q v T.heap locs) (hC : cells ≤ C) (hS : slots ≤ S) : o_G p e below s Q C S T f := by
  obtain ⟨fs, hr, hrun, hended, hW, hsame⟩ := X.leave (v := v) hv hlk
  exact ⟨_, _, k fs hr, hrun, hended, v, locs, rfl, hq, ⟨_, rfl⟩, hW, hsame.mono hC hS⟩
theorem o_retI (X : Stand p l e R s m args below meth c T locs cells slots) (hx : p.tables.exec = Jvm.exec) (hlk : meth.locks = false) (hret : meth.sig.returnType = some .int) {pc : Nat} {Ls : Array Slot} {z : Int32} {rest : List Value} (hd : decode c.code pc = .ok (.ireturn, 1))
    (hq : Q (some (.int z)) T.heap locs) (hC : cells ≤ C) (hS : slots ≤ S) : o_G p e below s Q C S T (mkF m pc Ls (.int z :: rest)) :=
  o_end X hlk (fun h => by rw [hret] at h; cases h) (fun fs hr => retOut X hx hret rfl (Or.inl ⟨rfl, Or.inl rfl, z, rfl⟩) hd hr) hq hC hS
theorem o_retN (X : Stand p l e R s m args below meth c T locs cells slots) (hx : p.tables.exec = Jvm.exec) (hlk : meth.locks = false) {t : FieldType} (hret : meth.sig.returnType = some t) (ht : t = .boolean ∨ t = .byte ∨ t = .char ∨ t = .short) {pc : Nat} {Ls : Array Slot} {z : Int32} {rest : List Value} (hd : decode c.code pc = .ok (.ireturn, 1))
    (hq : Q (some (.int (nar t z))) T.heap locs) (hC : cells ≤ C) (hS : slots ≤ S) : o_G p e below s Q C S T (mkF m pc Ls (.int z :: rest)) :=
  o_end X hlk (fun h => by rw [hret] at h; cases h) (fun fs hr => retN X hx hret ht hd hr) hq hC hS
theorem o_retJ (X : Stand p l e R s m args below meth c T locs cells slots) (hx : p.tables.exec = Jvm.exec) (hlk : meth.locks = false) (hret : meth.sig.returnType = some .long) {pc : Nat} {Ls : Array Slot} {z : Int64} {rest : List Value} (hd : decode c.code pc = .ok (.lreturn, 1))
    (hq : Q (some (.long z)) T.heap locs) (hC : cells ≤ C) (hS : slots ≤ S) : o_G p e below s Q C S T (mkF m pc Ls (.long z :: rest)) :=
  o_end X hlk (fun h => by rw [hret] at h; cases h) (fun fs hr => retOut X hx hret rfl (Or.inr (Or.inl ⟨rfl, rfl, z, rfl⟩)) hd hr) hq hC hS
theorem o_retA (X : Stand p l e R s m args below meth c T locs cells slots) (hx : p.tables.exec = Jvm.exec) (hlk : meth.locks = false) {t : FieldType} (hret : meth.sig.returnType = some t) (ht : t.isReference = true) {w : Value} (hw : w.isRef = true) {pc : Nat} {Ls : Array Slot} {rest : List Value} (hd : decode c.code pc = .ok (.areturn, 1))
    (hq : Q (some w) T.heap locs) (hC : cells ≤ C) (hS : slots ≤ S) : o_G p e below s Q C S T (mkF m pc Ls (w :: rest)) :=
  o_end X hlk (fun h => by rw [hret] at h; cases h) (fun fs hr => retOut X hx hret (by rcases ref_cases hw with rfl | ⟨a, rfl⟩ <;> cases t <;> first | rfl | (cases ht)) (Or.inr (Or.inr (Or.inr (Or.inr ⟨rfl, ht, hw⟩)))) hd hr) hq hC hS
theorem o_retV (X : Stand p l e R s m args below meth c T locs cells slots) (hx : p.tables.exec = Jvm.exec) (hlk : meth.locks = false) (hret : meth.sig.returnType = none) {pc : Nat} {Ls : Array Slot} (hd : decode c.code pc = .ok (.return_, 1))
    (hq : Q none T.heap locs) (hC : cells ≤ C) (hS : slots ≤ S) : o_G p e below s Q C S T (mkF m pc Ls []) :=
  o_end X hlk (fun _ => rfl) (fun fs hr => X.returnOut hx hret hd hr) hq hC hS
/-! calls by a contract: one row each -/
theorem o_callS (X : Stand p l e R s m args below meth c T locs cells slots) (hx : p.tables.exec = Jvm.exec) (hZ : Z.Warmed39 s.vm) (eT : T.heap = h) {own : String} {index : Nat} {y : MethodName} (hown : s.vm.findClass own = some m.cls) (w1 : (Cond.methodLink own index y).before a0 Z = true) (w2 : (Cond.static y).before a0 Z = true)
    (hy : y.cls ≠ "java/lang/invoke/MethodHandle" ∧ y.cls ≠ "java/lang/invoke/VarHandle") {bytes : ByteArray} {maxL : Nat} {ret : Option FieldType} {rm : Room} {as' : Array Value} (wc : (Cond.code y bytes maxL ret).before a0 Z = true) (wz : (Cond.initialized y.cls).before a0 Z = true) (hM : o_C l y bytes maxL ret rm Z h as' Q)
    {g : JFrame} (hg : g.method = m) (hsize : g.locals.size = c.maxLocals) (hmr : g.monitorRoom = 0) {argsL rest : List Value} (has : argsL.toArray = as') (hlen : ∀ sig, parseMethodDescriptor y.desc = some sig → argsL.length = sig.parameters.length) (hstack : g.stack = argsL.reverse ++ rest) (hd : decode c.code g.pc = .ok (.invokestatic index, 3))
    (hf : rm.frames + 1 ≤ R.frames) (hl : (rest.map fun v => v.category).sum + (maxL + 11) + rm.locals ≤ R.locals) (hc : cells + rm.cells ≤ R.cells) (hs : slots + rm.slots ≤ R.slots) :
    ∃ v T' L, Q v T'.heap L ∧ Stand p l e R s m args below meth c T' (locs ++ L) (cells + rm.cells) (slots + rm.slots) ∧ ∀ target, Steps p.tables e below (T'.setTop { g with pc := g.pc + 3, stack := v.toList ++ rest }) target → Steps p.tables e below (T.setTop g) target := by
  obtain ⟨v, _, ⟨T1, L1, k1, n1⟩, -, X1, ⟨Lc, hQ, l1, y1, z1⟩, st⟩ := Jvm.LawKit.callS X hx (y := y) hown (mvT hZ w1) (mvT hZ w2) (mvT hZ wz) (mvT hZ wc) hy (backOf (W := (rest.map fun v => v.category).sum) hM hZ wc wz hf hl) hg hsize (argsL := argsL) (rest := rest) hlen hstack (by rw [hmr]; omega) hd (fun _ _ => ⟨has, eT, hc, hs⟩)
  dsimp only [Pt.U, Pt.locs, Pt.cells, Pt.slots] at X1 l1 y1 z1 st hQ
  subst l1 y1 z1
  exact ⟨v, T1, Lc, hQ, X1, st⟩
theorem o_callN (X : Stand p l e R s m args below meth c T locs cells slots) (hx : p.tables.exec = Jvm.exec) (hZ : Z.Warmed39 s.vm) (eT : T.heap = h) {own : String} {index : Nat} {y : MethodName} (hown : s.vm.findClass own = some m.cls) (hy1 : y.name = "<init>") (w1 : (Cond.methodLink own index y).before a0 Z = true) (w2 : (Cond.instanceMethod y).before a0 Z = true)
    (hy : y.cls ≠ "java/lang/invoke/MethodHandle" ∧ y.cls ≠ "java/lang/invoke/VarHandle") {a : Addr} {bytes : ByteArray} {maxL : Nat} {rm : Room} {as' : Array Value} (wc : (Cond.code y bytes maxL none).before a0 Z = true) (wz : (Cond.initialized y.cls).before a0 Z = true) (hM : o_C l y bytes maxL none rm Z h as' Q)
    {g : JFrame} (hg : g.method = m) (hsize : g.locals.size = c.maxLocals) (hmr : g.monitorRoom = 0) {argsL rest : List Value} (has : (Value.ref a :: argsL).toArray = as') (hlen : ∀ sig, parseMethodDescriptor y.desc = some sig → argsL.length = sig.parameters.length) (hstack : g.stack = argsL.reverse ++ .ref a :: rest) (hd : decode c.code g.pc = .ok (.invokespecial index, 3))
    (hf : rm.frames + 1 ≤ R.frames) (hl : (rest.map fun v => v.category).sum + (maxL + 11) + rm.locals ≤ R.locals) (hc : cells + rm.cells ≤ R.cells) (hs : slots + rm.slots ≤ R.slots) :
    ∃ v T' L, Q v T'.heap L ∧ Stand p l e R s m args below meth c T' (locs ++ L) (cells + rm.cells) (slots + rm.slots) ∧ ∀ target, Steps p.tables e below (T'.setTop { g with pc := g.pc + 3, stack := v.toList ++ rest }) target → Steps p.tables e below (T.setTop g) target := by
  obtain ⟨v, _, ⟨T1, L1, k1, n1⟩, -, X1, ⟨Lc, hQ, l1, y1, z1⟩, st⟩ := X.specialBack hx (y := y) hy1 hown (mvT hZ w1) (mvT hZ w2) (mvT hZ wc) hy (backOf (W := (rest.map fun v => v.category).sum) hM hZ wc wz hf hl) hg hsize (Steps.refl _) (a := a) (argsL := argsL) (rest := rest) hlen hstack (by rw [hmr]; omega) hd (fun _ _ => ⟨has, eT, hc, hs⟩)
  dsimp only [Pt.U, Pt.locs, Pt.cells, Pt.slots] at X1 l1 y1 z1 st hQ
  subst l1 y1 z1
  exact ⟨v, T1, Lc, hQ, X1, fun _ k => st.trans k⟩
theorem o_callV' (X : Stand p l e R s m args below meth c T locs cells slots) (hx : p.tables.exec = Jvm.exec) (hZ : Z.Warmed39 s.vm) (eT : T.heap = h) {own K : String} {index : Nat} {y z : MethodName} (hown : s.vm.findClass own = some m.cls) (w1 : (Cond.methodLink own index y).before a0 Z = true) (w2 : (Cond.declares y).before a0 Z = true) (hnf : NotFace s y) (w3 : (Cond.selects K y z).before a0 Z = true) (w4 : (Cond.instanceMethod z).before a0 Z = true)
    (hy : y.cls ≠ "java/lang/invoke/MethodHandle" ∧ y.cls ≠ "java/lang/invoke/VarHandle") {b : Addr} (E : Exa Z h b K) {bytes : ByteArray} {maxL : Nat} {ret : Option FieldType} {rm : Room} {as' : Array Value} (wc : (Cond.code z bytes maxL ret).before a0 Z = true) (wz : (Cond.initialized z.cls).before a0 Z = true) (hM : o_C l z bytes maxL ret rm Z h as' Q)
    {g : JFrame} (hg : g.method = m) (hsize : g.locals.size = c.maxLocals) (hmr : g.monitorRoom = 0) {argsL rest : List Value} (has : (Value.ref b :: argsL).toArray = as') (hlen : ∀ sig, parseMethodDescriptor y.desc = some sig → argsL.length = sig.parameters.length) (hstack : g.stack = argsL.reverse ++ .ref b :: rest) (hd : decode c.code g.pc = .ok (.invokevirtual index, 3))
    (hf : rm.frames + 1 ≤ R.frames) (hl : (rest.map fun v => v.category).sum + (maxL + 11) + rm.locals ≤ R.locals) (hc : cells + rm.cells ≤ R.cells) (hs : slots + rm.slots ≤ R.slots) :
    ∃ v T' L, Q v T'.heap L ∧ Stand p l e R s m args below meth c T' (locs ++ L) (cells + rm.cells) (slots + rm.slots) ∧ ∀ target, Steps p.tables e below (T'.setTop { g with pc := g.pc + 3, stack := v.toList ++ rest }) target → Steps p.tables e below (T.setTop g) target := by
  obtain ⟨cq, kq, q1, q2, q3⟩ := isOf hZ eT E
  obtain ⟨v, _, ⟨T1, L1, k1, n1⟩, -, X1, ⟨Lc, hQ, l1, y1, z1⟩, st⟩ := X.virtualBack hx (y := y) (z := z) hown (mvT hZ w1) (mvT hZ w2) hnf (mvT hZ w3) (mvT hZ w4) hy (backOf (W := (rest.map fun v => v.category).sum) hM hZ wc wz hf hl) q1 q3 hg hsize (Steps.refl _) (argsL := argsL) (rest := rest) hlen hstack (by rw [hmr]; omega) hd (fun _ _ => ⟨has, eT, hc, hs⟩)
  dsimp only [Pt.U, Pt.locs, Pt.cells, Pt.slots] at X1 l1 y1 z1 st hQ
  subst l1 y1 z1
  exact ⟨v, T1, Lc, hQ, X1, fun _ k => st.trans k⟩
theorem o_callV (X : Stand p l e R s m args below meth c T locs cells slots) (hx : p.tables.exec = Jvm.exec) (hZ : Z.Warmed39 s.vm) (eT : T.heap = h) {own K : String} {index : Nat} {y : MethodName} (hown : s.vm.findClass own = some m.cls) (w1 : (Cond.methodLink own index y).before a0 Z = true) (w2 : (Cond.declares y).before a0 Z = true) (w3 : (Cond.selects K y y).before a0 Z = true) (w4 : (Cond.instanceMethod y).before a0 Z = true)
    (hy : y.cls ≠ "java/lang/invoke/MethodHandle" ∧ y.cls ≠ "java/lang/invoke/VarHandle") {b : Addr} (E : Exa Z h b K) {bytes : ByteArray} {maxL : Nat} {ret : Option FieldType} {rm : Room} {as' : Array Value} (wc : (Cond.code y bytes maxL ret).before a0 Z = true) (wz : (Cond.initialized y.cls).before a0 Z = true) (hM : o_C l y bytes maxL ret rm Z h as' Q)
    {g : JFrame} (hg : g.method = m) (hsize : g.locals.size = c.maxLocals) (hmr : g.monitorRoom = 0) {argsL rest : List Value} (has : (Value.ref b :: argsL).toArray = as') (hlen : ∀ sig, parseMethodDescriptor y.desc = some sig → argsL.length = sig.parameters.length) (hstack : g.stack = argsL.reverse ++ .ref b :: rest) (hd : decode c.code g.pc = .ok (.invokevirtual index, 3))
    (hf : rm.frames + 1 ≤ R.frames) (hl : (rest.map fun v => v.category).sum + (maxL + 11) + rm.locals ≤ R.locals) (hc : cells + rm.cells ≤ R.cells) (hs : slots + rm.slots ≤ R.slots) :
    ∃ v T' L, Q v T'.heap L ∧ Stand p l e R s m args below meth c T' (locs ++ L) (cells + rm.cells) (slots + rm.slots) ∧ ∀ target, Steps p.tables e below (T'.setTop { g with pc := g.pc + 3, stack := v.toList ++ rest }) target → Steps p.tables e below (T.setTop g) target :=
  o_callV' X hx hZ eT hown w1 w2 (notFace_of_selects (args := #[]) (mvT hZ w3)) w3 w4 hy E wc wz hM hg hsize hmr has hlen hstack hd hf hl hc hs
theorem o_callU (X : Stand p l e R s m args below meth c T locs cells slots) (hx : p.tables.exec = Jvm.exec) (hZ : Z.Warmed39 s.vm) (eT : T.heap = h) {own K owner : String} {index : Nat} {y z : MethodName} (hown : s.vm.findClass own = some m.cls) (w1 : (Cond.methodLink own index y).before a0 Z = true) (w0 : (Cond.sameMethod y.cls owner y.name y.desc).before a0 Z = true) (w2 : (Cond.declares ⟨owner, y.name, y.desc⟩).before a0 Z = true) (w3 : (Cond.selects K y z).before a0 Z = true) (w4 : (Cond.instanceMethod z).before a0 Z = true)
    (hy : owner ≠ "java/lang/invoke/MethodHandle" ∧ owner ≠ "java/lang/invoke/VarHandle") {b : Addr} (E : Exa Z h b K) {bytes : ByteArray} {maxL : Nat} {ret : Option FieldType} {rm : Room} {as' : Array Value} (wc : (Cond.code z bytes maxL ret).before a0 Z = true) (wz : (Cond.initialized z.cls).before a0 Z = true) (hM : o_C l z bytes maxL ret rm Z h as' Q)
    {g : JFrame} (hg : g.method = m) (hsize : g.locals.size = c.maxLocals) (hmr : g.monitorRoom = 0) {argsL rest : List Value} (has : (Value.ref b :: argsL).toArray = as') (hlen : ∀ sig, parseMethodDescriptor y.desc = some sig → argsL.length = sig.parameters.length) (hstack : g.stack = argsL.reverse ++ .ref b :: rest) (hd : decode c.code g.pc = .ok (.invokevirtual index, 3))
    (hf : rm.frames + 1 ≤ R.frames) (hl : (rest.map fun v => v.category).sum + (maxL + 11) + rm.locals ≤ R.locals) (hc : cells + rm.cells ≤ R.cells) (hs : slots + rm.slots ≤ R.slots) :
    ∃ v T' L, Q v T'.heap L ∧ Stand p l e R s m args below meth c T' (locs ++ L) (cells + rm.cells) (slots + rm.slots) ∧ ∀ target, Steps p.tables e below (T'.setTop { g with pc := g.pc + 3, stack := v.toList ++ rest }) target → Steps p.tables e below (T.setTop g) target := by
  obtain ⟨cq, kq, q1, q2, q3⟩ := isOf hZ eT E
  obtain ⟨v, _, ⟨T1, L1, k1, n1⟩, -, X1, ⟨Lc, hQ, l1, y1, z1⟩, st⟩ := X.virtualBackUp hx (x := y) (y := z) (owner := owner) hown (mvT hZ w1) (mvT hZ w0) (mvT hZ w2) hy (mvT hZ w3) (mvT hZ w4) (backOf (W := (rest.map fun v => v.category).sum) hM hZ wc wz hf hl) q1 q3 hg hsize (Steps.refl _) (argsL := argsL) (rest := rest) hlen hstack (by rw [hmr]; omega) hd (fun _ _ => ⟨has, eT, hc, hs⟩)
  dsimp only [Pt.U, Pt.locs, Pt.cells, Pt.slots] at X1 l1 y1 z1 st hQ
  subst l1 y1 z1
  exact ⟨v, T1, Lc, hQ, X1, fun _ k => st.trans k⟩
theorem o_selP {y : MethodName} {n : Nat} (wi : (Cond.instantiable y.cls n).before a0 Z = true) (w2 : (Cond.instanceMethod y).before a0 Z = true) (w3 : (Cond.privateMethod y).before a0 Z = true) (hy : y.cls ≠ "java/lang/invoke/MethodHandle" ∧ y.cls ≠ "java/lang/invoke/VarHandle") : (Cond.selects y.cls y y).before a0 Z = true := by
  obtain ⟨c, k, h1, h2, -, h4, -⟩ := Cond.instantiable_spec wi
  exact selects_self_of_private h1 h2 (by cases hq : k.isInterface <;> simp_all) (Cond.privateMethod_at w3) w2 hy
theorem o_callP (X : Stand p l e R s m args below meth c T locs cells slots) (hx : p.tables.exec = Jvm.exec) (hZ : Z.Warmed39 s.vm) (eT : T.heap = h) {own K : String} {index n : Nat} {y : MethodName} (hown : s.vm.findClass own = some m.cls) (w1 : (Cond.methodLink own index y).before a0 Z = true) (w2 : (Cond.instanceMethod y).before a0 Z = true) (wi : (Cond.instantiable y.cls n).before a0 Z = true) (w3 : (Cond.privateMethod y).before a0 Z = true)
    (hy : y.cls ≠ "java/lang/invoke/MethodHandle" ∧ y.cls ≠ "java/lang/invoke/VarHandle") {a : Addr} (E : Exa Z h a K) {bytes : ByteArray} {maxL : Nat} {ret : Option FieldType} {rm : Room} {as' : Array Value} (wc : (Cond.code y bytes maxL ret).before a0 Z = true) (wz : (Cond.initialized y.cls).before a0 Z = true) (hM : o_C l y bytes maxL ret rm Z h as' Q)
    {g : JFrame} (hg : g.method = m) (hsize : g.locals.size = c.maxLocals) (hmr : g.monitorRoom = 0) {argsL rest : List Value} (has : (Value.ref a :: argsL).toArray = as') (hlen : ∀ sig, parseMethodDescriptor y.desc = some sig → argsL.length = sig.parameters.length) (hstack : g.stack = argsL.reverse ++ .ref a :: rest) (hd : decode c.code g.pc = .ok (.invokevirtual index, 3))
    (hf : rm.frames + 1 ≤ R.frames) (hl : (rest.map fun v => v.category).sum + (maxL + 11) + rm.locals ≤ R.locals) (hc : cells + rm.cells ≤ R.cells) (hs : slots + rm.slots ≤ R.slots) :
    ∃ v T' L, Q v T'.heap L ∧ Stand p l e R s m args below meth c T' (locs ++ L) (cells + rm.cells) (slots + rm.slots) ∧ ∀ target, Steps p.tables e below (T'.setTop { g with pc := g.pc + 3, stack := v.toList ++ rest }) target → Steps p.tables e below (T.setTop g) target := by
  obtain ⟨cq, q1, q2⟩ := E.cell
  have ws := o_selP wi w2 w3 hy
  obtain ⟨v, _, ⟨T1, L1, k1, n1⟩, -, X1, ⟨Lc, hQ, l1, y1, z1⟩, st⟩ := X.privateBack hx (y := y) hown (mvT hZ w1) (mvT hZ w2) (mvT hZ ws) (Cond.privateMethod_at (mvP hZ w3 (args := #[]))) (mvT hZ wc) hy (backOf (W := (rest.map fun v => v.category).sum) hM hZ wc wz hf hl) hg hsize (Steps.refl _) (a := a) (by rw [eT]; exact q1) q2 (argsL := argsL) (rest := rest) hlen hstack (by rw [hmr]; omega) hd (fun _ _ => ⟨has, eT, hc, hs⟩)
  dsimp only [Pt.U, Pt.locs, Pt.cells, Pt.slots] at X1 l1 y1 z1 st hQ
  subst l1 y1 z1
  exact ⟨v, T1, Lc, hQ, X1, fun _ k => st.trans k⟩
theorem o_backF {y : MethodName} {bytes : ByteArray} {maxL : Nat} {ret : Option FieldType} {rm : Room} {W : Nat} {as' : Array Value} (hM : o_C l y bytes maxL ret rm Z h as' Q) (hZ : Z.Warmed39 s.vm) (wc : (Cond.code y bytes maxL ret).before a0 Z = true) (wz : (Cond.initialized y.cls).before a0 Z = true) (hf : rm.frames + 1 ≤ R.frames) (hl : W + (maxL + 11) + rm.locals ≤ R.locals) :
    Back l R p e below s args y 5 W (fun A a => a = as' ∧ A.U.heap = h ∧ A.cells + rm.cells ≤ R.cells ∧ A.slots + rm.slots ≤ R.slots) (fun A _ v B => ∃ L, Q v B.U.heap L ∧ B.locs = A.locs ++ L ∧ B.cells = A.cells + rm.cells ∧ B.slots = A.slots + rm.slots) := backOf (W := W) hM hZ wc wz hf hl
theorem o_callF (X : Stand p l e R s m args below meth c T locs cells slots) (hx : p.tables.exec = Jvm.exec) (hZ : Z.Warmed39 s.vm) (eT : T.heap = h) {own K : String} {index count : Nat} {xi y : MethodName} (hown : s.vm.findClass own = some m.cls) (w1 : (Cond.methodLink own index xi).before a0 Z = true) (w2 : (Cond.declares xi).before a0 Z = true) (w3 : (Cond.interfaceMethod xi.cls xi.cls xi.name xi.desc).before a0 Z = true) (w4 : (Cond.selects K xi y).before a0 Z = true) (w5 : (Cond.instanceMethod y).before a0 Z = true) (w6 : (Cond.publicMethod y).before a0 Z = true) (w7 : (Cond.unhidden K xi.name xi.desc).before a0 Z = true) (w8 : (Cond.castable K xi.cls).before a0 Z = true) (hfa : ((Cond.interfaceMethod xi.cls xi.cls xi.name xi.desc).onTables && (Cond.interfaceMethod xi.cls xi.cls xi.name xi.desc).keepsFace) = true)
    (hy : xi.cls ≠ "java/lang/invoke/MethodHandle" ∧ xi.cls ≠ "java/lang/invoke/VarHandle") {b : Addr} (E : Exa Z h b K) {bytes : ByteArray} {maxL : Nat} {ret : Option FieldType} {rm : Room} {as' : Array Value} (wc : (Cond.code y bytes maxL ret).before a0 Z = true) (wz : (Cond.initialized y.cls).before a0 Z = true) (hM : o_C l y bytes maxL ret rm Z h as' Q)
    {g : JFrame} (hg : g.method = m) (hsize : g.locals.size = c.maxLocals) (hmr : g.monitorRoom = 0) {argsL rest : List Value} (has : (Value.ref b :: argsL).toArray = as') (hlen : ∀ sig, parseMethodDescriptor xi.desc = some sig → argsL.length = sig.parameters.length) (hstack : g.stack = argsL.reverse ++ .ref b :: rest) (hd : decode c.code g.pc = .ok (.invokeinterface index count, 5))
    (hf : rm.frames + 1 ≤ R.frames) (hl : (rest.map fun v => v.category).sum + (maxL + 11) + rm.locals ≤ R.locals) (hc : cells + rm.cells ≤ R.cells) (hs : slots + rm.slots ≤ R.slots) :
    ∃ v T' L, Q v T'.heap L ∧ Stand p l e R s m args below meth c T' (locs ++ L) (cells + rm.cells) (slots + rm.slots) ∧ ∀ target, Steps p.tables e below (T'.setTop { g with pc := g.pc + 5, stack := v.toList ++ rest }) target → Steps p.tables e below (T.setTop g) target := by
  obtain ⟨cq, kq, q1, q2, q3⟩ := isOf hZ eT E
  obtain ⟨v, _, ⟨T1, L1, k1, n1⟩, -, X1, ⟨Lc, hQ, l1, y1, z1⟩, st⟩ := X.interfaceBack hx (xi := xi) (y := y) hown (mvT hZ w1) (mvT hZ w2) (mvT hZ w3 hfa) (mvT hZ w4) (mvT hZ w5) (mvT hZ w6) (mvT hZ w7) (mvT hZ w8) hy (o_backF (W := (rest.map fun v => v.category).sum) hM hZ wc wz hf hl) q1 q2 q3 hg hsize (Steps.refl _) (argsL := argsL) (rest := rest) hlen hstack (by rw [hmr]; omega) hd (fun _ _ => ⟨has, eT, hc, hs⟩)
  dsimp only [Pt.U, Pt.locs, Pt.cells, Pt.slots] at X1 l1 y1 z1 st hQ
  subst l1 y1 z1
  exact ⟨v, T1, Lc, hQ, X1, fun _ k => st.trans k⟩
/-! from the case's words -/
theorem o_eqR {args : Array Value} {first s : State} {o : Option Outcome} {idx : List Nat} {a b : Term} {x : Addr} (h : (Cond.eq a b).value args first o s idx = some true) (hb : b.eval args first o idx s = some (.ref x)) : a.eval args first o idx s = some (.ref x) := by
  obtain ⟨u, w, h1, h2, h3, h4⟩ := cmp_v (Or.inl h)
  cases hb.symm.trans h2
  rcases ref_cases (show u.isRef = true by cases u <;> simp [Kin, Value.isRef] at h4 ⊢) with rfl | ⟨z, rfl⟩
  · exact absurd (gotT (eq_R h1 h2 rfl rfl) h) nofun
  · rw [h1, gotT (eq_R h1 h2 rfl rfl) h]
theorem o_eqI {args : Array Value} {first s : State} {o : Option Outcome} {idx : List Nat} {a : Term} {n : Int32} (h : (Cond.eq a (.int n)).value args first o s idx = some true) : a.eval args first o idx s = some (.int n) := by
  obtain ⟨u, w, h1, h2, h3, h4⟩ := cmp_v (Or.inl h)
  cases (show some (Value.int n) = some w from h2)
  obtain ⟨z, rfl⟩ : ∃ z, u = .int z := h4
  have q : (Cond.eq a (.int n)).value args first o s idx = some (decide (z = n)) := by simp [Cond.value, h1, Term.eval]
  rw [h1, gotT q h]
theorem o_irr (x : Int32) : ¬ x < x := by rw [Int32.lt_iff_toInt_lt]; omega
theorem o_irrL (x : Int64) : ¬ x < x := by rw [Int64.lt_iff_toInt_lt]; omega
end Own
end Jvm.Pilot.@@N@@
namespace Jvm.Pilot.@@N@@
open Jvm Jvm.ClassFile Sem Op Lib Jvm.Free Jvm.Stand Jvm.LawKit Jvm.RoadKit Bundle Jvm.Pilot.@@N@@.Jvm.D
theorem o_extE {h0 h h' : Heap} (E : Ext h0 h) (E' : Ext h h') : Ext h0 h' := ⟨Nat.le_trans E.1 E'.1, fun a c q => E'.2 a c (E.2 a c q)⟩
theorem o_extW {h0 h h' : Heap} {a : Addr} {sl : Nat} {v : Value} (E : Ext h0 h) (W : Wr h h' a sl v) (q : h0.size ≤ a) : Ext h0 h' := by
  refine ⟨Nat.le_trans E.1 (Keep.of_wr W).1, fun b c hb => ?_⟩
  obtain ⟨c', h1, -, -, -, h5, -, -⟩ := wr_at W (E.2 b c hb)
  have ne : b ≠ a := fun e => absurd (Array.getElem?_eq_some_iff.mp hb).1 (Nat.not_lt.mpr (e ▸ q))
  rw [← h5 ne]; exact h1
theorem o_ext0 (h : Heap) : Ext h h := ⟨Nat.le_refl _, fun _ _ q => q⟩
theorem o_extK {h0 h h' : Heap} {ws : List Addr} (E : Ext h0 h) (K : Keep h h' ws) (q : ∀ x ∈ ws, h0.size ≤ x) : Ext h0 h' :=
  ⟨Nat.le_trans E.1 K.1, fun a c r => K.2.1 a c (E.2 a c r) fun z => absurd (Array.getElem?_eq_some_iff.mp r).1 (Nat.not_lt.mpr (q a z))⟩
/-- hidden from the arithmetic -/
def o_ne (a b : Addr) : Prop := a ≠ b
/-! own: arrays of longs and of ints whose content is a function -/
def o_AR (Z : State) (h : Heap) (a : Addr) (ty : FieldType) (n : Int32) (F : Nat → Value) (d : Value) : Prop := ∃ k, Arv Z h a k ty n ((List.range n.toNatClampNeg).map F) d
abbrev o_LA (Z : State) (h : Heap) (a : Addr) (n : Int32) (f : Nat → Int64) : Prop := o_AR Z h a .long n (fun i => .long (f i)) (.long 0)
abbrev o_IA (Z : State) (h : Heap) (a : Addr) (n : Int32) (f : Nat → Int32) : Prop := o_AR Z h a .int n (fun i => .int (f i)) (.int 0)
section OwnArr
variable {p : Program} {l : Launch} {e : Env} {R : Room} {s : State} {m : MethodId} {args : Array Value} {below : List Frame} {meth : Method} {c : Code} {T : State} {locs : List Loc} {cells slots : Nat} {Z : State} {a0 : Array Value} {h h' : Heap} {a b : Addr} {ty : FieldType} {n : Int32} {F : Nat → Value} {d v : Value} {sl : Nat} {ws : List Addr}
theorem o_AR.lt (A : o_AR Z h a ty n F d) : a < h.size := by obtain ⟨k, A⟩ := A; exact A.lt
theorem o_AR.ext (A : o_AR Z h a ty n F d) (E : Ext h h') : o_AR Z h' a ty n F d := by obtain ⟨k, A⟩ := A; exact ⟨k, A.ext E⟩
theorem o_AR.other (A : o_AR Z h b ty n F d) (W : Wr h h' a sl v) (q : b ≠ a) : o_AR Z h' b ty n F d := by obtain ⟨k, A⟩ := A; exact ⟨k, A.other W q⟩
theorem o_AR.keep (A : o_AR Z h a ty n F d) (K : Keep h h' ws) (q : a ∉ ws) : o_AR Z h' a ty n F d := by obtain ⟨k, A⟩ := A; exact ⟨k, A.keep K q⟩
theorem o_getD {n i : Nat} (F : Nat → Value) (d : Value) : ((List.range n).map F).getD i d = if i < n then F i else d := by
  by_cases q : i < n
  · simp [List.getD_eq_getElem?_getD, q]
  · simp [List.getD_eq_getElem?_getD, q]
theorem o_AR.congr {F' : Nat → Value} (A : o_AR Z h a ty n F d) (q : ∀ i, i < n.toNatClampNeg → F i = F' i) : o_AR Z h a ty n F' d := by
  obtain ⟨k, A⟩ := A
  refine ⟨k, A.pad fun i => ?_⟩
  rw [o_getD, o_getD]
  by_cases z : i < n.toNatClampNeg
  · rw [if_pos z, if_pos z, q i z]
  · rw [if_neg z, if_neg z]
theorem o_AR.ne {ty' : FieldType} {n' : Int32} {F' : Nat → Value} {d' : Value} (A : o_AR Z h a ty n F d) (B : o_AR Z h b ty' n' F' d') (q : ty ≠ ty') : a ≠ b := fun e => by
  subst e
  obtain ⟨k, c, A, -⟩ := A
  obtain ⟨k', c', B, -⟩ := B
  cases A.1.symm.trans B.1
  obtain ⟨-, kk, h1, cp, h2⟩ := A.2.1
  obtain ⟨-, kk', g1, cp', g2⟩ := B.2.1
  cases h1.symm.trans g1
  rw [h2] at g2
  cases g2
  exact q rfl
theorem o_AR.neExa {C : String} {kk : Nat} (A : o_AR Z h b ty n F d) (E : Exa Z h a C) (w : (Cond.instantiable C kk).before a0 Z = true) : a ≠ b := by
  obtain ⟨k, A⟩ := A
  exact E.neArv A w
theorem o_AR.nn (A : o_AR Z h a ty n F d) : ¬ n < 0 := by obtain ⟨k, c, A, -, -, q, -⟩ := A; exact q
theorem o_in {j : Int32} (q : ¬ j < 0 ∧ j < n) : j.toNatClampNeg < n.toNatClampNeg := by
  obtain ⟨q1, q2⟩ := q
  rw [Int32.lt_iff_toInt_lt] at q1 q2
  have : (0 : Int32).toInt = 0 := rfl
  simp only [Int32.toNatClampNeg]; omega
theorem o_ldJ {f : Nat → Int64} (X : Stand p l e R s m args below meth c T locs cells slots) (hx : p.tables.exec = Jvm.exec) (hZ : Z.Warmed39 s.vm) (eT : T.heap = h) (A : o_LA Z h a n f) {j : Int32} (hj : ¬ j < 0 ∧ j < n) {g : JFrame} (hg : g.method = m) {rest : List Value} (hs : g.stack = .int j :: .ref a :: rest) (hd : decode c.code g.pc = .ok (.laload, 1)) :
    ∀ target, Steps p.tables e below (T.setTop { g with pc := g.pc + 1, stack := .long (f j.toNatClampNeg) :: rest }) target → Steps p.tables e below (T.setTop g) target := fun target k => by
  obtain ⟨_, cl, Ar, q, S, N, H, G⟩ := A
  have hin := inb_of S hj
  exact X.laload hx (j := j) (v := .long (f j.toNatClampNeg)) (by rw [eT]; exact Ar.1) (State.isArrayOf_alike hZ.alike Ar.2.1) Ar.2.2 hin (Has.at H hin (by rw [o_getD, if_pos (o_in hj)])) hg hs hd _ k
theorem o_ldI {f : Nat → Int32} (X : Stand p l e R s m args below meth c T locs cells slots) (hx : p.tables.exec = Jvm.exec) (hZ : Z.Warmed39 s.vm) (eT : T.heap = h) (A : o_IA Z h a n f) {j : Int32} (hj : ¬ j < 0 ∧ j < n) {g : JFrame} (hg : g.method = m) {rest : List Value} (hs : g.stack = .int j :: .ref a :: rest) (hd : decode c.code g.pc = .ok (.iaload, 1)) :
    ∀ target, Steps p.tables e below (T.setTop { g with pc := g.pc + 1, stack := .int (f j.toNatClampNeg) :: rest }) target → Steps p.tables e below (T.setTop g) target := fun target k => by
  obtain ⟨_, cl, Ar, q, S, N, H, G⟩ := A
  have hin := inb_of S hj
  exact X.iaload hx (j := j) (v := .int (f j.toNatClampNeg)) (by rw [eT]; exact Ar.1) (State.isArrayOf_alike hZ.alike Ar.2.1) Ar.2.2 hin (Has.at H hin (by rw [o_getD, if_pos (o_in hj)])) hg hs hd _ k
theorem o_len (X : Stand p l e R s m args below meth c T locs cells slots) (hx : p.tables.exec = Jvm.exec) (hZ : Z.Warmed39 s.vm) (eT : T.heap = h) (A : o_AR Z h a ty n F d) {g : JFrame} (hg : g.method = m) {rest : List Value} (hs : g.stack = .ref a :: rest) (hd : decode c.code g.pc = .ok (.arraylength, 1)) :
    ∀ target, Steps p.tables e below (T.setTop { g with pc := g.pc + 1, stack := .int n :: rest }) target → Steps p.tables e below (T.setTop g) target := fun target k => by
  obtain ⟨_, cl, Ar, q, S, N, H, G⟩ := A
  refine X.arraylength hx (by rw [eT]; exact Ar.1) (State.isArrayOf_alike hZ.alike Ar.2.1) hg hs hd _ ?_
  rw [len_of S N]; exact k
theorem o_setF {j : Int32} {v : Value} (A : o_AR Z h a ty n F d) (hj : ¬ j < 0 ∧ j < n) (hv : fits ty v = true) (W : Wr h h' a j.toNatClampNeg v) : o_AR Z h' a ty n (fun i => if i = j.toNatClampNeg then v else F i) d := by
  obtain ⟨k, cl, Ar, q, S, N, H, G⟩ := A
  refine ⟨k, (Arv.set Ar q S N H G hv W j.toNatClampNeg rfl (by simpa using o_in hj)).pad fun i => ?_⟩
  rw [o_getD]
  by_cases z : i < n.toNatClampNeg
  · rw [if_pos z]
    by_cases y : i = j.toNatClampNeg
    · subst y; simp [List.getD_eq_getElem?_getD, z]
    · rw [if_neg y, List.getD_eq_getElem?_getD, List.getElem?_set_ne (Ne.symm y)]; simp [z]
  · rw [if_neg z]; simp [List.getD_eq_getElem?_getD, z]
theorem o_stJ {f : Nat → Int64} {x : Int64} (X : Stand p l e R s m args below meth c T locs cells slots) (hx : p.tables.exec = Jvm.exec) (hZ : Z.Warmed39 s.vm) (eT : T.heap = h) (A : o_LA Z h a n f) {j : Int32} (hj : ¬ j < 0 ∧ j < n) {g : JFrame} (hg : g.method = m) {rest : List Value} (hs : g.stack = .long x :: .int j :: .ref a :: rest) (hd : decode c.code g.pc = .ok (.lastore, 1)) :
    ∃ T' h', Stand p l e R s m args below meth c T' (locs ++ [⟨a, j.toNatClampNeg⟩]) cells slots ∧ T'.heap = h' ∧ Wr h h' a j.toNatClampNeg (.long x) ∧ o_LA Z h' a n (fun i => if i = j.toNatClampNeg then x else f i) ∧ ∀ target, Steps p.tables e below (T'.setTop { g with pc := g.pc + 1, stack := rest }) target → Steps p.tables e below (T.setTop g) target := by
  have A' := A
  obtain ⟨_, cl, Ar, q, S, N, H, G⟩ := A'
  obtain ⟨T', h', X', e', W, st⟩ := stJ X hx hZ eT Ar (j := j) (inb_of S hj) hg hs hd
  exact ⟨T', h', X', e', W, (o_setF A hj rfl W).congr fun i _ => by by_cases y : i = j.toNatClampNeg <;> simp [y], st⟩
theorem o_stI {f : Nat → Int32} {x : Int32} (X : Stand p l e R s m args below meth c T locs cells slots) (hx : p.tables.exec = Jvm.exec) (hZ : Z.Warmed39 s.vm) (eT : T.heap = h) (A : o_IA Z h a n f) {j : Int32} (hj : ¬ j < 0 ∧ j < n) {g : JFrame} (hg : g.method = m) {rest : List Value} (hs : g.stack = .int x :: .int j :: .ref a :: rest) (hd : decode c.code g.pc = .ok (.iastore, 1)) :
    ∃ T' h', Stand p l e R s m args below meth c T' (locs ++ [⟨a, j.toNatClampNeg⟩]) cells slots ∧ T'.heap = h' ∧ Wr h h' a j.toNatClampNeg (.int x) ∧ o_IA Z h' a n (fun i => if i = j.toNatClampNeg then x else f i) ∧ ∀ target, Steps p.tables e below (T'.setTop { g with pc := g.pc + 1, stack := rest }) target → Steps p.tables e below (T.setTop g) target := by
  have A' := A
  obtain ⟨_, cl, Ar, q, S, N, H, G⟩ := A'
  obtain ⟨T', h', X', e', W, st⟩ := stI X hx hZ eT Ar (j := j) (inb_of S hj) hg hs hd
  exact ⟨T', h', X', e', W, (o_setF A hj rfl W).congr fun i _ => by by_cases y : i = j.toNatClampNeg <;> simp [y], st⟩
theorem o_new0 {k : ClassId} {d : Value} (A : Arr Z h a (newA k ty n) ty) (q : ¬ n < 0) (hd : defaultValue ty = d) : o_AR Z h a ty n (fun _ => d) d := by
  subst hd
  refine ⟨k, (Arv.new A q).pad fun i => ?_⟩
  rw [o_getD]; by_cases z : i < n.toNatClampNeg <;> simp [z]
theorem o_cp {ty : FieldType} {n' sp dp nn : Int32} {F G : Nat → Value} {dF dG : Value} (X : Stand p l e R s m args below meth c T locs cells slots) (hx : p.tables.exec = Jvm.exec) (hZ : Z.Warmed39 s.vm) {own : String} {index : Nat} (hown : s.vm.findClass own = some m.cls)
    (w1 : (Cond.methodLink own index Jvm.Stand.acN).before a0 Z = true) (w2 : (Cond.native Jvm.Stand.acN).before a0 Z = true) (w3 : (Cond.static Jvm.Stand.acN).before a0 Z = true) (w4 : (Cond.initialized "java/lang/System").before a0 Z = true) (eT : T.heap = h)
    (A : o_AR Z h a ty n F dF) (B : o_AR Z h b ty n' G dG) (hty : refKind ty = false) (h1 : 0 ≤ sp.toInt) (h2 : 0 ≤ dp.toInt) (h3 : 0 ≤ nn.toInt) (h4 : sp.toInt + nn.toInt ≤ n.toInt) (h5 : dp.toInt + nn.toInt ≤ n'.toInt) {n0 : Nat} (N : Fr n0 locs) (ge : n0 ≤ b)
    {g : JFrame} (hg : g.method = m) (hsize : g.locals.size = c.maxLocals) (hmr : g.monitorRoom = 0) {rest : List Value} (hs : g.stack = .int nn :: .int dp :: .ref b :: .int sp :: .ref a :: rest) (hd : decode c.code g.pc = .ok (.invokestatic index, 3))
    (hf : 1 ≤ R.frames) (hlo : (rest.map fun v => v.category).sum + (nativeFrameWords "java/lang/System" "arraycopy" 5 + 11) ≤ R.locals) :
    ∃ T' h' L, Stand p l e R s m args below meth c T' L cells slots ∧ T'.heap = h' ∧ Fr n0 L ∧ Keep h h' [b] ∧ o_AR Z h' b ty n' (fun i => if dp.toNatClampNeg ≤ i ∧ i < dp.toNatClampNeg + nn.toNatClampNeg then F (sp.toNatClampNeg + (i - dp.toNatClampNeg)) else G i) dG ∧
      ∀ target, Steps p.tables e below (T'.setTop { g with pc := g.pc + 3, stack := rest }) target → Steps p.tables e below (T.setTop g) target := by
  obtain ⟨k, A⟩ := A
  obtain ⟨k', B⟩ := B
  have z : ∀ {x : Int32}, 0 ≤ x.toInt → ¬ x < 0 ∧ (x.toNatClampNeg : Int) = x.toInt := fun {x} q => by
    rw [Int32.lt_iff_toInt_lt]; have : (0 : Int32).toInt = 0 := rfl
    simp only [Int32.toNatClampNeg]; omega
  have hn := A
  obtain ⟨_, _, _, _, zn, _, _⟩ := hn
  have hn' := B
  obtain ⟨_, _, _, _, zn', _, _⟩ := hn'
  have en : (n.toNatClampNeg : Int) = n.toInt := (z (by rw [Int32.lt_iff_toInt_lt] at zn; have : (0 : Int32).toInt = 0 := rfl; omega)).2
  have en' : (n'.toNatClampNeg : Int) = n'.toInt := (z (by rw [Int32.lt_iff_toInt_lt] at zn'; have : (0 : Int32).toInt = 0 := rfl; omega)).2
  have q1 := z h1
  have q2 := z h2
  have q3 := z h3
  obtain ⟨T', h', L, X', e', N', K, A', st⟩ := cpA X hx hZ hown w1 w2 w3 w4 eT A B (Or.inl ⟨rfl, hty⟩) q1.1 q2.1 q3.1 (by omega) (by omega) rfl (by simp; omega) N ge hg hsize hs hd hf (W := (rest.map fun v => v.category).sum) (by rw [hmr]; omega) hlo
  refine ⟨T', h', L, X', e', N', K, ⟨k', A'.pad fun i => ?_⟩, st⟩
  rw [o_getD]
  simp only [List.getD_eq_getElem?_getD]
  have lt : (((List.range n'.toNatClampNeg).map G).take dp.toNatClampNeg).length = dp.toNatClampNeg := by simp; omega
  by_cases c1 : i < dp.toNatClampNeg
  · rw [List.append_assoc, List.getElem?_append_left (by omega), List.getElem?_take_of_lt c1, if_pos (show i < n'.toNatClampNeg by omega), if_neg (by omega)]
    simp [show i < n'.toNatClampNeg by omega]
  · by_cases c2 : i < dp.toNatClampNeg + nn.toNatClampNeg
    · rw [List.getElem?_append_left (by simp; omega), List.getElem?_append_right (by omega), lt, if_pos (show i < n'.toNatClampNeg by omega), if_pos ⟨by omega, c2⟩]
      simp [show i - dp.toNatClampNeg < nn.toNatClampNeg by omega, show sp.toNatClampNeg + (i - dp.toNatClampNeg) < n.toNatClampNeg by omega]
    · rw [List.getElem?_append_right (by simp; omega)]
      by_cases c3 : i < n'.toNatClampNeg
      · rw [if_pos c3, if_neg (by omega)]
        simp [show min dp.toNatClampNeg n'.toNatClampNeg = dp.toNatClampNeg by omega, show dp.toNatClampNeg + nn.toNatClampNeg + (i - (dp.toNatClampNeg + nn.toNatClampNeg)) = i by omega, c3]
      · rw [if_neg c3]
        simp [show min dp.toNatClampNeg n'.toNatClampNeg = dp.toNatClampNeg by omega, show dp.toNatClampNeg + nn.toNatClampNeg + (i - (dp.toNatClampNeg + nn.toNatClampNeg)) = i by omega, c3]
end OwnArr
theorem o_nat (x : Int32) (h : 0 ≤ x.toInt) : (x.toNatClampNeg : Int) = x.toInt := by
  simp only [Int32.toNatClampNeg]; omega
theorem o_maxL (x : Int64) (h : ¬ x < (9223372036854775807 : Int64)) : x = (9223372036854775807 : Int64) := by
  have e : ((9223372036854775807 : Int64)).toInt = 9223372036854775807 := by decide
  have r := rng64 x
  rw [Int64.lt_iff_toInt_lt, e] at h
  exact Int64.toInt_inj.mp (by rw [e]; omega)
theorem o_ins {A TL : Nat} {fs f2 : Nat → Int32} {xs g2 : Nat → Int64} {time : Int64} (he : A < TL)
    (F : ∀ i, f2 i = if i = A + 1 then fs A else if A + 2 ≤ i ∧ i < TL + 1 then fs (i - 1) else fs i) (G : ∀ i, g2 i = if i = A + 1 then time else if A + 2 ≤ i ∧ i < TL + 1 then xs (i - 1) else xs i)
    (hl : xs (TL - 1) = (9223372036854775807 : Int64) → ¬ time < xs 0 → A ≠ TL - 1) :
    (∀ i, i < TL + 1 → ∃ k, k < TL ∧ f2 i = fs k) ∧ g2 0 = xs 0 ∧ (xs (TL - 1) = (9223372036854775807 : Int64) → ¬ time < xs 0 → g2 (TL + 1 - 1) = (9223372036854775807 : Int64) ∧ f2 (TL + 1 - 1) = fs (TL - 1) ∧ ∀ i, i + 1 < TL + 1 → ∃ k, k + 1 < TL ∧ f2 i = fs k) := by
  refine ⟨fun i hi => ?_, ?_, fun hm hz => ?_⟩
  · by_cases z1 : i = A + 1
    · exact ⟨A, he, by rw [F, if_pos z1]⟩
    · by_cases z2 : A + 2 ≤ i ∧ i < TL + 1
      · exact ⟨i - 1, by omega, by rw [F, if_neg z1, if_pos z2]⟩
      · exact ⟨i, by omega, by rw [F, if_neg z1, if_neg z2]⟩
  · rw [G, if_neg (by omega), if_neg (by omega)]
  · have h1 := hl hm hz
    refine ⟨?_, ?_, fun i hi => ?_⟩
    · rw [G, if_neg (by omega), if_pos (by omega), show TL + 1 - 1 - 1 = TL - 1 by omega]; exact hm
    · rw [F, if_neg (by omega), if_pos (by omega), show TL + 1 - 1 - 1 = TL - 1 by omega]
    · by_cases z1 : i = A + 1
      · exact ⟨A, by omega, by rw [F, if_pos z1]⟩
      · by_cases z2 : A + 2 ≤ i ∧ i < TL + 1
        · exact ⟨i - 1, by omega, by rw [F, if_neg z1, if_pos z2]⟩
        · exact ⟨i, by omega, by rw [F, if_neg z1, if_neg z2]⟩
theorem o_del {A TL : Nat} {fs f2 : Nat → Int32} {xs g2 : Nat → Int64} (h1 : 1 ≤ A) (he : A < TL) (hq : fs A = fs (A - 1))
    (F : ∀ i, f2 i = if A ≤ i ∧ i + 1 < TL then fs (i + 1) else fs i) (G : ∀ i, g2 i = if A ≤ i ∧ i + 1 < TL then xs (i + 1) else xs i) :
    (∀ i, i < TL - 1 → ∃ k, k < TL ∧ f2 i = fs k) ∧ g2 0 = xs 0 ∧ (xs (TL - 1) = (9223372036854775807 : Int64) → (∀ k, k + 1 < TL → fs k ≠ fs (TL - 1)) → g2 (TL - 1 - 1) = (9223372036854775807 : Int64) ∧ f2 (TL - 1 - 1) = fs (TL - 1) ∧ ∀ i, i + 1 < TL - 1 → ∃ k, k + 1 < TL ∧ f2 i = fs k) := by
  refine ⟨fun i hi => ?_, ?_, fun hm hz => ?_⟩
  · by_cases z : A ≤ i ∧ i + 1 < TL
    · exact ⟨i + 1, z.2, by rw [F, if_pos z]⟩
    · exact ⟨i, by omega, by rw [F, if_neg z]⟩
  · rw [G, if_neg (by omega)]
  · have ha : A ≠ TL - 1 := fun q => hz (A - 1) (by omega) (by rw [← hq, q])
    refine ⟨?_, ?_, fun i hi => ?_⟩
    · rw [G, if_pos (by omega), show TL - 1 - 1 + 1 = TL - 1 by omega]; exact hm
    · rw [F, if_pos (by omega), show TL - 1 - 1 + 1 = TL - 1 by omega]
    · by_cases z : A ≤ i ∧ i + 1 < TL
      · exact ⟨i + 1, by omega, by rw [F, if_pos z]⟩
      · exact ⟨i, by omega, by rw [F, if_neg z]⟩
def o_put (rs : Nat → Int64) (c : Nat) (s e d : Int64) : Nat → Int64 := fun i => if i = 3 * (c % 8) + 2 then d else if i = 3 * (c % 8) + 1 then e else if i = 3 * (c % 8) then s else rs i
theorem o_lrem8 (x : Int64) (h : 0 ≤ x.toInt) : (x - (x / (8 : Int64)) * (8 : Int64)).toInt = x.toInt % 8 := (c_lrem x (8 : Int64) 8 (by decide)).1 h
theorem o_kept (ch : Int64) (cn : Nat) (hc : ch.toInt = (cn : Int)) (h2 : cn ≤ 100) : ((3 : Int32) * ((ch + (1 : Int64)) - ((ch + (1 : Int64)) / (8 : Int64)) * (8 : Int64)).toInt32).toInt = ((3 * ((cn + 1) % 8) : Nat) : Int) := by
  have e0 : ((1 : Int64)).toInt = 1 := by decide
  have e1 := c_ladd ch (1 : Int64)
  have r1 := rng64 (ch + (1 : Int64))
  have e2 : (ch + (1 : Int64)).toInt = (cn : Int) + 1 := by omega
  have e3 := o_lrem8 (ch + (1 : Int64)) (by omega)
  have e4 := c_l2i ((ch + (1 : Int64)) - ((ch + (1 : Int64)) / (8 : Int64)) * (8 : Int64))
  have r4 := rng32 (((ch + (1 : Int64)) - ((ch + (1 : Int64)) / (8 : Int64)) * (8 : Int64)).toInt32)
  have e5 := c_imul (3 : Int32) (((ch + (1 : Int64)) - ((ch + (1 : Int64)) / (8 : Int64)) * (8 : Int64)).toInt32)
  have r5 := rng32 ((3 : Int32) * (((ch + (1 : Int64)) - ((ch + (1 : Int64)) / (8 : Int64)) * (8 : Int64)).toInt32))
  have e6 : ((3 : Int32)).toInt = 3 := by decide
  rw [e6] at e5
  rw [e3, e2] at e4
  generalize ((ch + (1 : Int64)) - ((ch + (1 : Int64)) / (8 : Int64)) * (8 : Int64)).toInt32 = y at *
  have e7 : ((cn : Int) + 1) % 8 = (((cn + 1) % 8 : Nat) : Int) := by rw [Int.natCast_emod]; rfl
  rw [e7] at e4
  have e8 : (cn + 1) % 8 < 8 := Nat.mod_lt _ (by decide)
  generalize (cn + 1) % 8 = q at *
  clear e3 e1 r1 e2 hc h2 e7
  omega
/-! the counts: all in lo..hi, but the last may be 16 -/
def o_B (lo hi : Int) (TL : Nat) (fs : Nat → Int32) : Prop := ∀ i, i < TL → (lo ≤ (fs i).toInt ∧ (fs i).toInt ≤ hi) ∨ (i + 1 = TL ∧ (fs i).toInt = 16)
def o_S (lo hi : Int) (TL : Nat) (xs : Nat → Int64) (fs : Nat → Int32) : Prop := (hi = 16 ∧ lo ≤ 16 ∧ o_B lo 16 TL fs) ∨ (hi ≤ 15 ∧ o_B lo hi TL fs ∧ xs (TL - 1) = (9223372036854775807 : Int64) ∧ (fs (TL - 1)).toInt = 16)
theorem o_B16 {lo : Int} {TL TL' : Nat} {fs fs' : Nat → Int32} (h : lo ≤ 16) (B : o_B lo 16 TL fs) (q : ∀ i, i < TL' → ∃ k, k < TL ∧ fs' i = fs k) : o_B lo 16 TL' fs' := fun i hi => by
  obtain ⟨k, h1, h2⟩ := q i hi
  rw [h2]
  rcases B k h1 with b | b
  · exact Or.inl b
  · exact Or.inl ⟨by omega, by omega⟩
theorem o_Blast {lo hi : Int} {TL TL' : Nat} {fs fs' : Nat → Int32} (h1 : 1 ≤ TL) (B : o_B lo hi TL fs) (q1 : fs' (TL' - 1) = fs (TL - 1)) (q2 : ∀ i, i + 1 < TL' → ∃ k, k + 1 < TL ∧ fs' i = fs k) : o_B lo hi TL' fs' := fun i hi => by
  rcases Nat.lt_or_ge (i + 1) TL' with z | z
  · obtain ⟨k, k1, k2⟩ := q2 i z
    rw [k2]
    rcases B k (by omega) with b | b
    · exact Or.inl b
    · exact absurd b.1 (by omega)
  · have e : i = TL' - 1 := by omega
    rw [e, q1]
    rcases B (TL - 1) (by omega) with b | b
    · exact Or.inl b
    · exact Or.inr ⟨by omega, b.2⟩
theorem o_Ssplit {lo hi : Int} {TL TL' : Nat} {xs xs' : Nat → Int64} {fs fs' : Nat → Int32} {time : Int64} (h1 : 1 ≤ TL) (S : o_S lo hi TL xs fs) (hz : hi ≤ 15 → ¬ time < xs 0) (pe : ∀ i, i < TL' → ∃ k, k < TL ∧ fs' i = fs k)
    (pg : xs (TL - 1) = (9223372036854775807 : Int64) → ¬ time < xs 0 → xs' (TL' - 1) = (9223372036854775807 : Int64) ∧ fs' (TL' - 1) = fs (TL - 1) ∧ ∀ i, i + 1 < TL' → ∃ k, k + 1 < TL ∧ fs' i = fs k) : o_S lo hi TL' xs' fs' := by
  rcases S with ⟨a, b, c⟩ | ⟨a, b, c, d⟩
  · exact Or.inl ⟨a, b, o_B16 b c pe⟩
  · obtain ⟨q1, q2, q3⟩ := pg c (hz a)
    exact Or.inr ⟨a, o_Blast h1 b q2 q3, q1, by rw [q2]; exact d⟩
theorem o_Smerge {lo hi : Int} {TL TL' : Nat} {xs xs' : Nat → Int64} {fs fs' : Nat → Int32} (h1 : 1 ≤ TL) (S : o_S lo hi TL xs fs) (mc : ∀ i, i < TL' → ∃ k, k < TL ∧ fs' i = fs k)
    (me : xs (TL - 1) = (9223372036854775807 : Int64) → (∀ k, k + 1 < TL → fs k ≠ fs (TL - 1)) → xs' (TL' - 1) = (9223372036854775807 : Int64) ∧ fs' (TL' - 1) = fs (TL - 1) ∧ ∀ i, i + 1 < TL' → ∃ k, k + 1 < TL ∧ fs' i = fs k) : o_S lo hi TL' xs' fs' := by
  rcases S with ⟨a, b, c⟩ | ⟨a, b, c, d⟩
  · exact Or.inl ⟨a, b, o_B16 b c mc⟩
  · obtain ⟨q1, q2, q3⟩ := me c (fun k hk q => by
      rcases b k (by omega) with z | z
      · rw [q] at z; omega
      · omega)
    exact Or.inr ⟨a, o_Blast h1 b q2 q3, q1, by rw [q2]; exact d⟩
theorem o_Sgrow {lo hi : Int} {TL : Nat} {xs xs' : Nat → Int64} {fs fs' : Nat → Int32} (h1 : 1 ≤ TL) (S : o_S lo hi TL xs fs) (ra : ∀ i, i < TL → xs' i = xs i) (rb : ∀ i, i < TL → fs' i = fs i) : o_S lo hi TL xs' fs' := by
  have B : ∀ {hi : Int}, o_B lo hi TL fs → o_B lo hi TL fs' := fun {hi} b i q => by rw [rb i q]; exact b i q
  rcases S with ⟨a, b, c⟩ | ⟨a, b, c, d⟩
  · exact Or.inl ⟨a, b, B c⟩
  · exact Or.inr ⟨a, B b, by rw [ra _ (by omega)]; exact c, by rw [rb _ (by omega)]; exact d⟩
def o_D (lo hi lo1 hi1 dl : Int) : Prop := lo1 ≤ lo ∧ lo1 ≤ lo + dl ∧ hi ≤ hi1 ∧ hi + dl ≤ hi1 ∧ 0 ≤ lo + dl ∧ hi + dl ≤ 16 ∧ lo ≤ 16 ∧ (hi1 = 16 ∨ hi1 ≤ 15)
theorem o_Sinit {lo hi lo1 hi1 dl : Int} {TL : Nat} {xs : Nat → Int64} {fs : Nat → Int32} (D : o_D lo hi lo1 hi1 dl) (S : o_S lo hi TL xs fs) : o_S lo1 hi1 TL xs fs ∧ ∀ j, j + 1 < TL → lo ≤ (fs j).toInt ∧ (fs j).toInt ≤ hi := by
  obtain ⟨d1, d2, d3, d4, d5, d6, d7, d8⟩ := D
  have W : ∀ {hi hi1 : Int}, hi ≤ hi1 → o_B lo hi TL fs → o_B lo1 hi1 TL fs := fun {a b} q c i h => (c i h).imp (fun z => ⟨by omega, by omega⟩) id
  have U : ∀ {hi : Int}, o_B lo hi TL fs → ∀ j, j + 1 < TL → lo ≤ (fs j).toInt ∧ (fs j).toInt ≤ hi := fun {a} c j h => (c j (by omega)).elim id (fun z => absurd z.1 (by omega))
  rcases S with ⟨a, b, c⟩ | ⟨a, b, c, d⟩
  · subst a
    exact ⟨Or.inl ⟨by omega, by omega, W (Int.le_refl _) c⟩, U c⟩
  · refine ⟨?_, U b⟩
    rcases d8 with e | e
    · exact Or.inl ⟨e, by omega, W (by omega) b⟩
    · exact Or.inr ⟨e, W d3 b, c, d⟩
theorem o_Sstep {lo hi lo1 hi1 dl : Int} {TL K : Nat} {xs : Nat → Int64} {fs f2 : Nat → Int32} (D : o_D lo hi lo1 hi1 dl) (hK : K + 1 < TL) (S : o_S lo1 hi1 TL xs fs) (U : ∀ j, K ≤ j → j + 1 < TL → lo ≤ (fs j).toInt ∧ (fs j).toInt ≤ hi)
    (e1 : (f2 K).toInt = (fs K).toInt + dl) (e2 : ∀ i, i ≠ K → f2 i = fs i) : o_S lo1 hi1 TL xs f2 ∧ ∀ j, K + 1 ≤ j → j + 1 < TL → lo ≤ (f2 j).toInt ∧ (f2 j).toInt ≤ hi := by
  obtain ⟨d1, d2, d3, d4, d5, d6, d7, d8⟩ := D
  have u := U K (Nat.le_refl _) hK
  refine ⟨?_, fun j h1 h2 => by rw [e2 j (by omega)]; exact U j (by omega) h2⟩
  have B : ∀ {hi2 : Int}, hi1 ≤ hi2 → o_B lo1 hi2 TL fs → o_B lo1 hi2 TL f2 := fun {a} q c i h => by
    rcases Nat.decEq i K with z | z
    · rw [e2 i z]; exact c i h
    · rw [z]; exact Or.inl ⟨by omega, by omega⟩
  rcases S with ⟨a, b, c⟩ | ⟨a, b, c, d⟩
  · exact Or.inl ⟨a, b, B (by omega) c⟩
  · exact Or.inr ⟨a, B (Int.le_refl _) b, c, by rw [e2 _ (by omega)]; exact d⟩
theorem o_nlt0 {x : Int32} (h : 0 ≤ x.toInt) : ¬ x < (0 : Int32) := by rw [Int32.lt_iff_toInt_lt, show ((0 : Int32)).toInt = 0 by decide]; omega
theorem o_nlt16 {x : Int32} (h : x.toInt ≤ 16) : ¬ (16 : Int32) < x := by rw [Int32.lt_iff_toInt_lt, show ((16 : Int32)).toInt = 16 by decide]; omega
theorem o_lt3 {a b x : Int64} (h : ¬ a < x) (q : a < b) : ¬ b < x := by
  rw [Int64.lt_iff_toInt_lt] at *; omega
theorem o_mono {p : Program} {e : Env} {below : List Frame} {s T : State} {f : JFrame} {Q Q' : Option Value → Heap → List Loc → Prop} {C S : Nat} (h : ∀ v h L, Q v h L → Q' v h L) (g : o_G p e below s Q C S T f) : o_G p e below s Q' C S T f := by
  obtain ⟨t, o, h1, h2, h3, v, L, h4, h5, h6⟩ := g
  exact ⟨t, o, h1, h2, h3, v, L, h4, h _ _ _ h5, h6⟩
theorem o_staK {Z : State} {h h' : Heap} {C n d C' : String} {v : Value} {a : Addr} (F : Sta Z h C n d v) (K : Keep h h' [a]) (E : Exa Z h a C') : Sta Z h' C n d v := by
  obtain ⟨cf, i, k, f, st, cell, h1, h2, h3, h4, h5, h6, h7⟩ := F
  obtain ⟨c1, k1, e1, -, -, e4, -⟩ := E
  refine ⟨cf, i, k, f, st, cell, h1, h2, h3, h4, K.2.1 st cell h5 (ninS (fun q => ?_) nin0), h6, h7⟩
  subst q
  cases h5.symm.trans e1
  rw [e4] at h6; cases h6
def o_cL (L : Int32) : Nat := if L = 4 then 0 else if L = 8 then 2 else if L = 16 then 4 else 6
def o_sL (L : Int32) : Nat := if L = 4 then 0 else if L = 8 then 64 else if L = 16 then 128 else 192
theorem o_cL_le (L : Int32) : o_cL L ≤ 6 ∧ o_sL L ≤ 192 := by
  unfold o_cL o_sL
  constructor <;> split <;> (try split) <;> (try split) <;> omega
def o_scan (rs : Nat → Int64) (a b : Int64) : Nat → Nat → Int32
  | _, 0 => 0
  | c, k + 1 => if rs (3 * (c % 8)) < b ∧ a < rs (3 * (c % 8) + 1) then 1 else o_scan rs a b (c + 1) k
def o_co (rs : Nat → Int64) (a b : Int64) (cn sn : Nat) : Int32 := if sn = cn then 0 else if 8 < cn - sn then 1 else o_scan rs a b (sn + 1) (cn - sn)
theorem o_kept2 (cv : Int64) (c : Nat) (hc : cv.toInt = (c : Int)) (h2 : c ≤ 200) : ((3 : Int32) * (cv - (cv / (8 : Int64)) * (8 : Int64)).toInt32).toInt = ((3 * (c % 8) : Nat) : Int) := by
  have e3 := o_lrem8 cv (by omega)
  have e4 := c_l2i (cv - (cv / (8 : Int64)) * (8 : Int64))
  have r4 := rng32 ((cv - (cv / (8 : Int64)) * (8 : Int64)).toInt32)
  have e5 := c_imul (3 : Int32) ((cv - (cv / (8 : Int64)) * (8 : Int64)).toInt32)
  have r5 := rng32 ((3 : Int32) * ((cv - (cv / (8 : Int64)) * (8 : Int64)).toInt32))
  have e6 : ((3 : Int32)).toInt = 3 := by decide
  rw [e6] at e5
  rw [e3, hc] at e4
  generalize (cv - (cv / (8 : Int64)) * (8 : Int64)).toInt32 = y at *
  have e7 : (c : Int) % 8 = ((c % 8 : Nat) : Int) := by rw [Int.natCast_emod]; rfl
  rw [e7] at e4
  have e8 : c % 8 < 8 := Nat.mod_lt _ (by decide)
  generalize c % 8 = q at *
  clear e3 hc h2 e7
  omega
theorem o_nlt0L {x : Int64} (h : 0 ≤ x.toInt) : ¬ x < (0 : Int64) := by rw [Int64.lt_iff_toInt_lt, show ((0 : Int64)).toInt = 0 by decide]; omega
theorem o_eqne {x y : Int64} {a b : Nat} (h : ¬ x = y) (hx : x.toInt = (a : Int)) (hy : y.toInt = (b : Int)) : ¬ a = b := fun q => h (Int64.toInt_inj.mp (by rw [hx, hy, q]))
theorem o_eqeq {x y : Int64} {a b : Nat} (h : x = y) (hx : x.toInt = (a : Int)) (hy : y.toInt = (b : Int)) : a = b := by have := congrArg Int64.toInt h; omega
theorem o_nrange (k : Int32) : 1 ≤ ((1 : Int32) + ((k).toUInt32 >>> ((8 : Int32) &&& 31).toUInt32).toInt32 % (9 : Int32)).toInt ∧ ((1 : Int32) + ((k).toUInt32 >>> ((8 : Int32) &&& 31).toUInt32).toInt32 % (9 : Int32)).toInt ≤ 9 := by
  have e1 := c_iushr k (8 : Int32) 8 (by decide) (by decide)
  generalize ((k).toUInt32 >>> ((8 : Int32) &&& 31).toUInt32).toInt32 = y at *
  have e2 := (c_irem y (9 : Int32) 9 (by decide)).1 (by omega)
  have e3 := c_iadd (1 : Int32) (y % (9 : Int32))
  have r3 := rng32 ((1 : Int32) + y % (9 : Int32))
  rw [show ((1 : Int32)).toInt = 1 from by decide] at e3
  omega
theorem o_nz1 {n : Int32} (h : 1 ≤ n.toInt ∧ n.toInt ≤ 9) : n + (1 : Int32) ≠ 0 := fun q => by
  have e := congrArg Int32.toInt q
  have e3 := c_iadd n (1 : Int32)
  rw [show ((1 : Int32)).toInt = 1 from by decide] at e3
  have e4 : ((0 : Int32)).toInt = 0 := by decide
  omega
theorem o_srange (k n : Int32) (h : 1 ≤ n.toInt ∧ n.toInt ≤ 9) : 0 ≤ ((k &&& (255 : Int32)) % (n + (1 : Int32))).toInt ∧ ((k &&& (255 : Int32)) % (n + (1 : Int32))).toInt < n.toInt + 1 := by
  have e1 := c_mask k (255 : Int32) 8 (by decide) (by decide)
  have e3 := c_iadd n (1 : Int32)
  have r3 := rng32 (n + (1 : Int32))
  rw [show ((1 : Int32)).toInt = 1 from by decide] at e3
  have e5 : (n + (1 : Int32)).toInt = n.toInt + 1 := by omega
  have e4 := (c_iremV (k &&& (255 : Int32)) (n + (1 : Int32))).1 (by omega) (by omega)
  omega

section Ops
variable {p : Program} {l : Launch} {e : Env} {R : Room} {s : State} {m : MethodId} {args : Array Value} {below : List Frame} {meth : Method} {c : Code} {T : State} {locs : List Loc} {cells slots : Nat} {Z : State} {a0 : Array Value} {h : Heap} {Q : Option Value → Heap → List Loc → Prop} {C S pc : Nat} {b : ByteArray} {Ls : Array Slot} {st : List Value}
theorem o_aN (X : Stand p l e R s m args below meth c T locs cells slots) (hx : p.tables.exec = Jvm.exec) (hby : c.code = b) {k : Fin 4} {v : Value} (hd : decode b pc = .ok (.aload_n k, 1)) (hl : Ls[k.val]? = some (.val v)) (hv : v.isRef = true) (g : o_G p e below s Q C S T (mkF m (pc + 1) Ls (v :: st))) : o_G p e below s Q C S T (mkF m pc Ls st) := o_st (fun _ k => XS.aloadN X.here hx rfl (hb hby hd) hl hv k) g
theorem o_aL (X : Stand p l e R s m args below meth c T locs cells slots) (hx : p.tables.exec = Jvm.exec) (hby : c.code = b) {k : Nat} {v : Value} (hd : decode b pc = .ok (.aload k, 2)) (hl : Ls[k]? = some (.val v)) (hv : v.isRef = true) (g : o_G p e below s Q C S T (mkF m (pc + 2) Ls (v :: st))) : o_G p e below s Q C S T (mkF m pc Ls st) := o_st (fun _ k => XS.aload X.here hx rfl (hb hby hd) hl hv k) g
theorem o_iN (X : Stand p l e R s m args below meth c T locs cells slots) (hx : p.tables.exec = Jvm.exec) (hby : c.code = b) {k : Fin 4} {v : Int32} (hd : decode b pc = .ok (.iload_n k, 1)) (hl : Ls[k.val]? = some (.val (.int v))) (g : o_G p e below s Q C S T (mkF m (pc + 1) Ls (.int v :: st))) : o_G p e below s Q C S T (mkF m pc Ls st) := o_st (fun _ k => XS.iloadN X.here hx rfl (hb hby hd) hl k) g
theorem o_iL (X : Stand p l e R s m args below meth c T locs cells slots) (hx : p.tables.exec = Jvm.exec) (hby : c.code = b) {k : Nat} {v : Int32} (hd : decode b pc = .ok (.iload k, 2)) (hl : Ls[k]? = some (.val (.int v))) (g : o_G p e below s Q C S T (mkF m (pc + 2) Ls (.int v :: st))) : o_G p e below s Q C S T (mkF m pc Ls st) := o_st (fun _ k => XS.iload X.here hx rfl (hb hby hd) hl k) g
theorem o_lN (X : Stand p l e R s m args below meth c T locs cells slots) (hx : p.tables.exec = Jvm.exec) (hby : c.code = b) {k : Fin 4} {v : Int64} (hd : decode b pc = .ok (.lload_n k, 1)) (hl : Ls[k.val]? = some (.val (.long v))) (g : o_G p e below s Q C S T (mkF m (pc + 1) Ls (.long v :: st))) : o_G p e below s Q C S T (mkF m pc Ls st) := o_st (fun _ k => XS.lloadN X.here hx rfl (hb hby hd) hl k) g
theorem o_lL (X : Stand p l e R s m args below meth c T locs cells slots) (hx : p.tables.exec = Jvm.exec) (hby : c.code = b) {k : Nat} {v : Int64} (hd : decode b pc = .ok (.lload k, 2)) (hl : Ls[k]? = some (.val (.long v))) (g : o_G p e below s Q C S T (mkF m (pc + 2) Ls (.long v :: st))) : o_G p e below s Q C S T (mkF m pc Ls st) := o_st (fun _ k => XS.lload X.here hx rfl (hb hby hd) hl k) g
theorem o_iC (v : Int32) (X : Stand p l e R s m args below meth c T locs cells slots) (hx : p.tables.exec = Jvm.exec) (hby : c.code = b) {i : Int} (hd : decode b pc = .ok (.iconst i, 1)) (hv : Int32.ofInt i = v) (g : o_G p e below s Q C S T (mkF m (pc + 1) Ls (.int v :: st))) : o_G p e below s Q C S T (mkF m pc Ls st) := o_st (fun _ k => XS.iconst X.here hx rfl (hb hby hd) (by subst hv; exact k)) g
theorem o_lC (v : Int64) (X : Stand p l e R s m args below meth c T locs cells slots) (hx : p.tables.exec = Jvm.exec) (hby : c.code = b) {i : Fin 2} (hd : decode b pc = .ok (.lconst i, 1)) (hv : Int64.ofNat i = v) (g : o_G p e below s Q C S T (mkF m (pc + 1) Ls (.long v :: st))) : o_G p e below s Q C S T (mkF m pc Ls st) := o_st (fun _ k => XS.lconst X.here hx rfl (hb hby hd) (by subst hv; exact k)) g
theorem o_ia (X : Stand p l e R s m args below meth c T locs cells slots) (hx : p.tables.exec = Jvm.exec) (hby : c.code = b) {x y : Int32} (hd : decode b pc = .ok (.iadd, 1))  (g : o_G p e below s Q C S T (mkF m (pc + 1) Ls (.int (x + y) :: st))) : o_G p e below s Q C S T (mkF m pc Ls (.int y :: .int x :: st)) := o_st (fun _ k => XS.iadd X.here hx rfl (hb hby hd) rfl k) g
theorem o_is (X : Stand p l e R s m args below meth c T locs cells slots) (hx : p.tables.exec = Jvm.exec) (hby : c.code = b) {x y : Int32} (hd : decode b pc = .ok (.isub, 1))  (g : o_G p e below s Q C S T (mkF m (pc + 1) Ls (.int (x - y) :: st))) : o_G p e below s Q C S T (mkF m pc Ls (.int y :: .int x :: st)) := o_st (fun _ k => XS.isub X.here hx rfl (hb hby hd) rfl k) g
theorem o_im (X : Stand p l e R s m args below meth c T locs cells slots) (hx : p.tables.exec = Jvm.exec) (hby : c.code = b) {x y : Int32} (hd : decode b pc = .ok (.imul, 1))  (g : o_G p e below s Q C S T (mkF m (pc + 1) Ls (.int (x * y) :: st))) : o_G p e below s Q C S T (mkF m pc Ls (.int y :: .int x :: st)) := o_st (fun _ k => XS.imul X.here hx rfl (hb hby hd) rfl k) g
theorem o_la (X : Stand p l e R s m args below meth c T locs cells slots) (hx : p.tables.exec = Jvm.exec) (hby : c.code = b) {x y : Int64} (hd : decode b pc = .ok (.ladd, 1))  (g : o_G p e below s Q C S T (mkF m (pc + 1) Ls (.long (x + y) :: st))) : o_G p e below s Q C S T (mkF m pc Ls (.long y :: .long x :: st)) := o_st (fun _ k => XS.ladd X.here hx rfl (hb hby hd) rfl k) g
theorem o_ls (X : Stand p l e R s m args below meth c T locs cells slots) (hx : p.tables.exec = Jvm.exec) (hby : c.code = b) {x y : Int64} (hd : decode b pc = .ok (.lsub, 1))  (g : o_G p e below s Q C S T (mkF m (pc + 1) Ls (.long (x - y) :: st))) : o_G p e below s Q C S T (mkF m pc Ls (.long y :: .long x :: st)) := o_st (fun _ k => XS.lsub X.here hx rfl (hb hby hd) rfl k) g
theorem o_cm (X : Stand p l e R s m args below meth c T locs cells slots) (hx : p.tables.exec = Jvm.exec) (hby : c.code = b) {x y : Int64} (hd : decode b pc = .ok (.lcmp, 1))  (g : o_G p e below s Q C S T (mkF m (pc + 1) Ls (.int (lcmpW x y) :: st))) : o_G p e below s Q C S T (mkF m pc Ls (.long y :: .long x :: st)) := o_st (fun _ k => XS.lcmp X.here hx rfl (hb hby hd) rfl k) g
theorem o_du (X : Stand p l e R s m args below meth c T locs cells slots) (hx : p.tables.exec = Jvm.exec) (hby : c.code = b) {x : Value} (hd : decode b pc = .ok (.dup, 1)) (hc : x.category = 1) (g : o_G p e below s Q C S T (mkF m (pc + 1) Ls (x :: x :: st))) : o_G p e below s Q C S T (mkF m pc Ls (x :: st)) := o_st (fun _ k => XS.dup X.here hx rfl (hb hby hd) rfl hc k) g
theorem o_po (X : Stand p l e R s m args below meth c T locs cells slots) (hx : p.tables.exec = Jvm.exec) (hby : c.code = b) {x : Value} (hd : decode b pc = .ok (.pop, 1)) (hc : x.category = 1) (g : o_G p e below s Q C S T (mkF m (pc + 1) Ls st)) : o_G p e below s Q C S T (mkF m pc Ls (x :: st)) := o_st (fun _ k => XS.pop X.here hx rfl (hb hby hd) rfl hc k) g
theorem o_li (X : Stand p l e R s m args below meth c T locs cells slots) (hx : p.tables.exec = Jvm.exec) (hby : c.code = b) {x : Int64} (hd : decode b pc = .ok (.l2i, 1))  (g : o_G p e below s Q C S T (mkF m (pc + 1) Ls (.int x.toInt32 :: st))) : o_G p e below s Q C S T (mkF m pc Ls (.long x :: st)) := o_st (fun _ k => XS.l2i X.here hx rfl (hb hby hd) rfl k) g
theorem o_il (X : Stand p l e R s m args below meth c T locs cells slots) (hx : p.tables.exec = Jvm.exec) (hby : c.code = b) {x : Int32} (hd : decode b pc = .ok (.i2l, 1))  (g : o_G p e below s Q C S T (mkF m (pc + 1) Ls (.long x.toInt64 :: st))) : o_G p e below s Q C S T (mkF m pc Ls (.int x :: st)) := o_st (fun _ k => XS.i2l X.here hx rfl (hb hby hd) rfl k) g
theorem o_iS (L : Array Slot) (X : Stand p l e R s m args below meth c T locs cells slots) (hx : p.tables.exec = Jvm.exec) (hby : c.code = b) {k : Nat} {x : Int32} (hd : decode b pc = .ok (.istore k, 2)) (hl : storeLocals Ls k (.int x) = some L) (g : o_G p e below s Q C S T (mkF m (pc + 2) L st)) : o_G p e below s Q C S T (mkF m pc Ls (.int x :: st)) := o_st (fun _ k => XS.istore X.here hx rfl (hb hby hd) rfl hl k) g
theorem o_iT (L : Array Slot) (X : Stand p l e R s m args below meth c T locs cells slots) (hx : p.tables.exec = Jvm.exec) (hby : c.code = b) {k : Fin 4} {x : Int32} (hd : decode b pc = .ok (.istore_n k, 1)) (hl : storeLocals Ls k.val (.int x) = some L) (g : o_G p e below s Q C S T (mkF m (pc + 1) L st)) : o_G p e below s Q C S T (mkF m pc Ls (.int x :: st)) := o_st (fun _ k => XS.istoreN X.here hx rfl (hb hby hd) rfl hl k) g
theorem o_lS (L : Array Slot) (X : Stand p l e R s m args below meth c T locs cells slots) (hx : p.tables.exec = Jvm.exec) (hby : c.code = b) {k : Nat} {x : Int64} (hd : decode b pc = .ok (.lstore k, 2)) (hl : storeLocals Ls k (.long x) = some L) (g : o_G p e below s Q C S T (mkF m (pc + 2) L st)) : o_G p e below s Q C S T (mkF m pc Ls (.long x :: st)) := o_st (fun _ k => XS.lstore X.here hx rfl (hb hby hd) rfl hl k) g
theorem o_lT (L : Array Slot) (X : Stand p l e R s m args below meth c T locs cells slots) (hx : p.tables.exec = Jvm.exec) (hby : c.code = b) {k : Fin 4} {x : Int64} (hd : decode b pc = .ok (.lstore_n k, 1)) (hl : storeLocals Ls k.val (.long x) = some L) (g : o_G p e below s Q C S T (mkF m (pc + 1) L st)) : o_G p e below s Q C S T (mkF m pc Ls (.long x :: st)) := o_st (fun _ k => XS.lstoreN X.here hx rfl (hb hby hd) rfl hl k) g
theorem o_ii (L : Array Slot) (X : Stand p l e R s m args below meth c T locs cells slots) (hx : p.tables.exec = Jvm.exec) (hby : c.code = b) {k : Nat} {i : Int} {x : Int32} (hd : decode b pc = .ok (.iinc k i, 3)) (hk : Ls[k]? = some (.val (.int x))) (hl : storeLocals Ls k (.int (x + Int32.ofInt i)) = some L) (g : o_G p e below s Q C S T (mkF m (pc + 3) L st)) : o_G p e below s Q C S T (mkF m pc Ls st) := o_st (fun _ k => XS.iinc X.here hx rfl (hb hby hd) hk hl k) g
theorem o_cN (X : Stand p l e R s m args below meth c T locs cells slots) (hx : p.tables.exec = Jvm.exec) (hby : c.code = b) {x y : Int32} {o : Int} {cd : ClassFile.Cond} (hd : decode b pc = .ok (.if_icmp cd o, 3)) (hc : if_icmp.holds cd x y = false) (g : o_G p e below s Q C S T (mkF m (pc + 3) Ls st)) : o_G p e below s Q C S T (mkF m pc Ls (.int y :: .int x :: st)) := o_st (fun _ k => XS.icmpNo X.here hx rfl (hb hby hd) rfl hc k) g
theorem o_fN (X : Stand p l e R s m args below meth c T locs cells slots) (hx : p.tables.exec = Jvm.exec) (hby : c.code = b) {x : Int32} {o : Int} {cd : ClassFile.Cond} (hd : decode b pc = .ok (.ifCond cd o, 3)) (hc : ifCond.holds cd x = false) (g : o_G p e below s Q C S T (mkF m (pc + 3) Ls st)) : o_G p e below s Q C S T (mkF m pc Ls (.int x :: st)) := o_st (fun _ k => XS.ifNo X.here hx rfl (hb hby hd) rfl hc k) g
theorem o_cY (pc' : Nat) (X : Stand p l e R s m args below meth c T locs cells slots) (hx : p.tables.exec = Jvm.exec) (hby : c.code = b) {x y : Int32} {o : Int} {cd : ClassFile.Cond} (hd : decode b pc = .ok (.if_icmp cd o, 3)) (hc : if_icmp.holds cd x y = true) (g : o_G p e below s Q C S T (mkF m pc' Ls st)) (h1 : 0 ≤ (pc : Int) + o := by decide) (h2 : ((pc : Int) + o).toNat = pc' := by decide) : o_G p e below s Q C S T (mkF m pc Ls (.int y :: .int x :: st)) := o_st (fun _ k => XS.icmpYes X.here hx rfl (pc0 := pc) rfl (hb hby hd) rfl hc h1 h2 k) g
theorem o_fY (pc' : Nat) (X : Stand p l e R s m args below meth c T locs cells slots) (hx : p.tables.exec = Jvm.exec) (hby : c.code = b) {x : Int32} {o : Int} {cd : ClassFile.Cond} (hd : decode b pc = .ok (.ifCond cd o, 3)) (hc : ifCond.holds cd x = true) (g : o_G p e below s Q C S T (mkF m pc' Ls st)) (h1 : 0 ≤ (pc : Int) + o := by decide) (h2 : ((pc : Int) + o).toNat = pc' := by decide) : o_G p e below s Q C S T (mkF m pc Ls (.int x :: st)) := o_st (fun _ k => XS.ifYes X.here hx rfl (pc0 := pc) rfl (hb hby hd) rfl hc h1 h2 k) g
theorem o_go (pc' : Nat) (X : Stand p l e R s m args below meth c T locs cells slots) (hx : p.tables.exec = Jvm.exec) (hby : c.code = b) {o : Int} (hd : decode b pc = .ok (.goto o, 3)) (g : o_G p e below s Q C S T (mkF m pc' Ls st)) (h1 : 0 ≤ (pc : Int) + o := by decide) (h2 : ((pc : Int) + o).toNat = pc' := by decide) : o_G p e below s Q C S T (mkF m pc Ls st) := o_st (fun _ k => XS.goto X.here hx rfl (pc0 := pc) rfl (hb hby hd) h1 h2 k) g
theorem o_gF (X : Stand p l e R s m args below meth c T locs cells slots) (hx : p.tables.exec = Jvm.exec) (hZ : Z.Warmed39 s.vm) (eT : T.heap = h) (hby : c.code = b) {own O n d : String} {ix : Nat} (hown : s.vm.findClass own = some m.cls) (w : (Cond.fieldLink own ix O n d).before a0 Z = true) {a : Addr} {v : Value} (F : Fld Z h a O n d v) (hd : decode b pc = .ok (.getfield ix, 3)) (g : ∀ T', Stand p l e R s m args below meth c T' locs cells slots → T'.heap = h → o_G p e below s Q C S T' (mkF m (pc + 3) Ls (v :: st))) : o_G p e below s Q C S T (mkF m pc Ls (.ref a :: st)) := by
  obtain ⟨T', X', e', k⟩ := getF X hx hZ hown (host := "") (Or.inl w) Via.refl eT F (g := mkF m pc Ls (.ref a :: st)) rfl rfl (hb hby hd)
  exact o_st k (g T' X' e')
theorem o_dI (X : Stand p l e R s m args below meth c T locs cells slots) (hx : p.tables.exec = Jvm.exec) (hZ : Z.Warmed39 s.vm) (eT : T.heap = h) (hby : c.code = b) {f : Nat → Int32} {a : Addr} {n j : Int32} (A : o_IA Z h a n f) (hj : ¬ j < 0 ∧ j < n) (hd : decode b pc = .ok (.iaload, 1)) (g : o_G p e below s Q C S T (mkF m (pc + 1) Ls (.int (f j.toNatClampNeg) :: st))) : o_G p e below s Q C S T (mkF m pc Ls (.int j :: .ref a :: st)) := o_st (fun _ k => o_ldI X hx hZ eT A hj (g := mkF m pc Ls (.int j :: .ref a :: st)) rfl rfl (hb hby hd) _ k) g
theorem o_dJ (X : Stand p l e R s m args below meth c T locs cells slots) (hx : p.tables.exec = Jvm.exec) (hZ : Z.Warmed39 s.vm) (eT : T.heap = h) (hby : c.code = b) {f : Nat → Int64} {a : Addr} {n j : Int32} (A : o_LA Z h a n f) (hj : ¬ j < 0 ∧ j < n) (hd : decode b pc = .ok (.laload, 1)) (g : o_G p e below s Q C S T (mkF m (pc + 1) Ls (.long (f j.toNatClampNeg) :: st))) : o_G p e below s Q C S T (mkF m pc Ls (.int j :: .ref a :: st)) := o_st (fun _ k => o_ldJ X hx hZ eT A hj (g := mkF m pc Ls (.int j :: .ref a :: st)) rfl rfl (hb hby hd) _ k) g
theorem o_tI (X : Stand p l e R s m args below meth c T locs cells slots) (hx : p.tables.exec = Jvm.exec) (hZ : Z.Warmed39 s.vm) (eT : T.heap = h) (hby : c.code = b) {f : Nat → Int32} {x : Int32} {a : Addr} {n j : Int32} (A : o_IA Z h a n f) (hj : ¬ j < 0 ∧ j < n) (hd : decode b pc = .ok (.iastore, 1)) (g : ∀ T' h', Stand p l e R s m args below meth c T' (locs ++ [⟨a, j.toNatClampNeg⟩]) cells slots → T'.heap = h' → Wr h h' a j.toNatClampNeg (.int x) → o_IA Z h' a n (fun i => if i = j.toNatClampNeg then x else f i) → o_G p e below s Q C S T' (mkF m (pc + 1) Ls st)) : o_G p e below s Q C S T (mkF m pc Ls (.int x :: .int j :: .ref a :: st)) := by
  obtain ⟨T', h', X', e', W, A', k⟩ := o_stI X hx hZ eT A hj (g := mkF m pc Ls (.int x :: .int j :: .ref a :: st)) rfl rfl (hb hby hd)
  exact o_st k (g T' h' X' e' W A')
theorem o_tJ (X : Stand p l e R s m args below meth c T locs cells slots) (hx : p.tables.exec = Jvm.exec) (hZ : Z.Warmed39 s.vm) (eT : T.heap = h) (hby : c.code = b) {f : Nat → Int64} {x : Int64} {a : Addr} {n j : Int32} (A : o_LA Z h a n f) (hj : ¬ j < 0 ∧ j < n) (hd : decode b pc = .ok (.lastore, 1)) (g : ∀ T' h', Stand p l e R s m args below meth c T' (locs ++ [⟨a, j.toNatClampNeg⟩]) cells slots → T'.heap = h' → Wr h h' a j.toNatClampNeg (.long x) → o_LA Z h' a n (fun i => if i = j.toNatClampNeg then x else f i) → o_G p e below s Q C S T' (mkF m (pc + 1) Ls st)) : o_G p e below s Q C S T (mkF m pc Ls (.long x :: .int j :: .ref a :: st)) := by
  obtain ⟨T', h', X', e', W, A', k⟩ := o_stJ X hx hZ eT A hj (g := mkF m pc Ls (.long x :: .int j :: .ref a :: st)) rfl rfl (hb hby hd)
  exact o_st k (g T' h' X' e' W A')
theorem o_pF (X : Stand p l e R s m args below meth c T locs cells slots) (hx : p.tables.exec = Jvm.exec) (hZ : Z.Warmed39 s.vm) (eT : T.heap = h) (hby : c.code = b) {own O n d K : String} {ix kk : Nat} {ty : FieldType} (hown : s.vm.findClass own = some m.cls) (w : (Cond.fieldLink own ix O n d).before a0 Z = true) {a : Addr} {v old : Value} (F : Fld Z h a O n d old) (E : Exa Z h a K) (L : (Cond.lays K O n d).before a0 Z = true ∨ ((Cond.laysFinal K O n d).before a0 Z = true ∧ own = O ∧ meth.name = "<init>")) (wi : (Cond.instantiable K kk).before a0 Z = true) (hty : parseFieldDescriptor d = some ty) (hn : narrow ty v = v) (hf : fits ty v = true) (hd : decode b pc = .ok (.putfield ix, 3)) (g : ∀ T' h', Stand p l e R s m args below meth c T' (locs ++ [⟨a, Jvm.RoadKit.slotOf Z O n d⟩]) cells slots → T'.heap = h' → Wr h h' a (Jvm.RoadKit.slotOf Z O n d) v → o_G p e below s Q C S T' (mkF m (pc + 3) Ls st)) : o_G p e below s Q C S T (mkF m pc Ls (v :: .ref a :: st)) := by
  obtain ⟨T', h', X', e', W, k⟩ := putF X hx hZ hown (host := "") (Or.inl w) Via.refl eT F E L wi hty hn hf (g := mkF m pc Ls (v :: .ref a :: st)) rfl rfl (hb hby hd)
  exact o_st k (g T' h' X' e' W)
end Ops
theorem o_m {a0 : Array Value} {Z : State} (hw : ∀ d ∈ tables_1, d.before a0 Z = true) (i : Nat) {d : Cond} (h : tables_1[i]? = some d) : d.before a0 Z = true := hw _ (List.mem_of_getElem? h)
theorem o_b {a b : Nat} (h : Nat.ble a b = true) : a ≤ b := Nat.le_of_ble_eq_true h
theorem o_sn {P : Prop} {Z : State} {a0 : Array Value} {C O n d O' n' d' : String} (L : Laid Z a0 C O n d) (L' : Laid Z a0 C O' n' d') (hn : n ≠ n' := by decide) (ht : (parseFieldDescriptor d).isSome = true := by decide) (ht' : (parseFieldDescriptor d').isSome = true := by decide) : P ∨ Jvm.RoadKit.slotOf Z O n d ≠ Jvm.RoadKit.slotOf Z O' n' d' := by
  obtain ⟨t, h⟩ := Option.isSome_iff_exists.mp ht
  obtain ⟨t', h'⟩ := Option.isSome_iff_exists.mp ht'
  exact Or.inr (Jvm.RoadKit.slot_ne L L' hn h h')
abbrev o_n1 : String := "com/example/gapwright/gapwright/profile/CpuProfile"
abbrev o_n2 : String := "com/example/gapwright/gapwright/profile/CpuProfile$1"
abbrev o_n3 : String := "com/example/gapwright/gapwright/profile/FreeRuns"
abbrev o_n4 : String := "com/example/gapwright/gapwright/profile/CpuProfile$Watcher"
abbrev o_n5 : String := "com/example/gapwright/gapwright/profile/CpuProfileChangedSincePinLaw"
abbrev o_y0 : ByteArray := prog_103_method_44_code
abbrev o_y1 : ByteArray := jdk_29_method_69_code
abbrev o_y2 : ByteArray := jdk_29_method_65_code
abbrev o_y3 : ByteArray := prog_103_method_43_code
abbrev o_y4 : ByteArray := prog_103_method_45_code
abbrev o_y5 : ByteArray := prog_119_method_3_code
abbrev o_y6 : ByteArray := prog_103_method_46_code
abbrev o_y7 : ByteArray := prog_119_method_4_code
abbrev o_y8 : ByteArray := prog_103_method_37_code
abbrev o_y9 : ByteArray := prog_119_method_5_code
abbrev o_y10 : ByteArray := prog_103_method_26_code
abbrev o_y11 : ByteArray := prog_104_method_2_code
abbrev o_y12 : ByteArray := prog_103_method_41_code
abbrev o_y13 : ByteArray := prog_103_method_42_code
abbrev o_y14 : ByteArray := prog_119_method_2_code
abbrev o_y15 : ByteArray := prog_103_method_31_code
abbrev o_y16 : ByteArray := prog_103_method_32_code
abbrev o_y17 : ByteArray := prog_119_method_1_code
abbrev o_y18 : ByteArray := prog_103_method_1_code
abbrev o_y19 : ByteArray := prog_103_method_23_code
abbrev o_y20 : ByteArray := jdk_29_method_70_code
abbrev o_y21 : ByteArray := jdk_29_method_66_code
abbrev o_t0 (v1 : Addr) (v2 : Int32) (v3 : Int32) (v4 : Int32) (v5 : Int64) (v6 : Int32) (v7 : Int32) (v8 : Int32) : Array Slot := #[.val (.ref v1), .val (.int v2), .val (.int v3), .val (.int v4), .val (.long v5), .second, .val (.int v6), .val (.int v7), .val (.int v8)]
abbrev o_f0 (m : MethodId) (pc : Nat) (v1 : Addr) (v2 : Int32) (v3 : Int32) (v4 : Int32) (v5 : Int64) (v6 : Int32) (v7 : Int32) (v8 : Int32) (st : List Value) : JFrame := mkF m pc (o_t0 v1 v2 v3 v4 v5 v6 v7 v8) st
abbrev o_t1 (v1 : Int32) (v2 : Int32) : Array Slot := #[.val (.int v1), .val (.int v2)]
abbrev o_f1 (m : MethodId) (pc : Nat) (v1 : Int32) (v2 : Int32) (st : List Value) : JFrame := mkF m pc (o_t1 v1 v2) st
abbrev o_t2 (v1 : Addr) (v2 : Int32) (v3 : Int32) (v4 : Int32) (v5 : Int64) (v6 : Int32) (v7 : Int32) : Array Slot := #[.val (.ref v1), .val (.int v2), .val (.int v3), .val (.int v4), .val (.long v5), .second, .val (.int v6), .unset, .val (.int v7)]
abbrev o_f2 (m : MethodId) (pc : Nat) (v1 : Addr) (v2 : Int32) (v3 : Int32) (v4 : Int32) (v5 : Int64) (v6 : Int32) (v7 : Int32) (st : List Value) : JFrame := mkF m pc (o_t2 v1 v2 v3 v4 v5 v6 v7) st
abbrev o_t3 (v1 : Addr) (v2 : Int32) (v3 : Int32) (v4 : Int32) (v5 : Int64) (v6 : Int32) (v7 : Int32) : Array Slot := #[.val (.ref v1), .val (.int v2), .val (.int v3), .val (.int v4), .val (.long v5), .second, .unset, .val (.int v6), .val (.int v7)]
abbrev o_f3 (m : MethodId) (pc : Nat) (v1 : Addr) (v2 : Int32) (v3 : Int32) (v4 : Int32) (v5 : Int64) (v6 : Int32) (v7 : Int32) (st : List Value) : JFrame := mkF m pc (o_t3 v1 v2 v3 v4 v5 v6 v7) st
abbrev o_t4 (v1 : Addr) (v2 : Int32) (v3 : Int32) (v4 : Int32) (v5 : Int64) : Array Slot := #[.val (.ref v1), .val (.int v2), .val (.int v3), .val (.int v4), .val (.long v5), .second, .unset, .unset, .unset]
abbrev o_f4 (m : MethodId) (pc : Nat) (v1 : Addr) (v2 : Int32) (v3 : Int32) (v4 : Int32) (v5 : Int64) (st : List Value) : JFrame := mkF m pc (o_t4 v1 v2 v3 v4 v5) st
abbrev o_t5 (v1 : Addr) (v2 : Int32) (v3 : Int32) (v4 : Int32) (v5 : Int64) (v6 : Int32) : Array Slot := #[.val (.ref v1), .val (.int v2), .val (.int v3), .val (.int v4), .val (.long v5), .second, .unset, .val (.int v6), .unset]
abbrev o_f5 (m : MethodId) (pc : Nat) (v1 : Addr) (v2 : Int32) (v3 : Int32) (v4 : Int32) (v5 : Int64) (v6 : Int32) (st : List Value) : JFrame := mkF m pc (o_t5 v1 v2 v3 v4 v5 v6) st
abbrev o_t6 (v1 : Addr) (v2 : Int32) (v3 : Int32) (v4 : Int32) (v5 : Int64) (v6 : Int32) : Array Slot := #[.val (.ref v1), .val (.int v2), .val (.int v3), .val (.int v4), .val (.long v5), .second, .val (.int v6), .unset, .unset]
abbrev o_f6 (m : MethodId) (pc : Nat) (v1 : Addr) (v2 : Int32) (v3 : Int32) (v4 : Int32) (v5 : Int64) (v6 : Int32) (st : List Value) : JFrame := mkF m pc (o_t6 v1 v2 v3 v4 v5 v6) st
abbrev o_t7 (v1 : Addr) (v2 : Int64) : Array Slot := #[.val (.ref v1), .val (.long v2), .second, .unset]
abbrev o_f7 (m : MethodId) (pc : Nat) (v1 : Addr) (v2 : Int64) (st : List Value) : JFrame := mkF m pc (o_t7 v1 v2) st
abbrev o_t8 (v1 : Addr) (v2 : Int64) (v3 : Int32) : Array Slot := #[.val (.ref v1), .val (.long v2), .second, .val (.int v3)]
abbrev o_f8 (m : MethodId) (pc : Nat) (v1 : Addr) (v2 : Int64) (v3 : Int32) (st : List Value) : JFrame := mkF m pc (o_t8 v1 v2 v3) st
abbrev o_t9 (v1 : Addr) (v2 : Int32) : Array Slot := #[.val (.ref v1), .val (.int v2), .unset, .unset]
abbrev o_f9 (m : MethodId) (pc : Nat) (v1 : Addr) (v2 : Int32) (st : List Value) : JFrame := mkF m pc (o_t9 v1 v2) st
abbrev o_t10 (v1 : Addr) (v2 : Int32) : Array Slot := #[.val (.ref v1), .val (.int v2)]
abbrev o_f10 (m : MethodId) (pc : Nat) (v1 : Addr) (v2 : Int32) (st : List Value) : JFrame := mkF m pc (o_t10 v1 v2) st
abbrev o_t11 (v1 : Addr) (v2 : Int32) : Array Slot := #[.val (.ref v1), .val (.int v2), .unset, .unset, .unset, .unset]
abbrev o_f11 (m : MethodId) (pc : Nat) (v1 : Addr) (v2 : Int32) (st : List Value) : JFrame := mkF m pc (o_t11 v1 v2) st
abbrev o_t12 (v1 : Addr) : Array Slot := #[.val (.ref v1)]
abbrev o_f12 (m : MethodId) (pc : Nat) (v1 : Addr) (st : List Value) : JFrame := mkF m pc (o_t12 v1) st
abbrev o_t13 (v1 : Addr) (v2 : Int32) (v3 : Int32) : Array Slot := #[.val (.ref v1), .val (.int v2), .val (.int v3), .unset, .unset, .unset]
abbrev o_f13 (m : MethodId) (pc : Nat) (v1 : Addr) (v2 : Int32) (v3 : Int32) (st : List Value) : JFrame := mkF m pc (o_t13 v1 v2 v3) st
abbrev o_t14 (v1 : Addr) (v2 : Int32) (v3 : Int32) (v4 : Int32) : Array Slot := #[.val (.ref v1), .val (.int v2), .val (.int v3), .val (.int v4), .unset, .unset]
abbrev o_f14 (m : MethodId) (pc : Nat) (v1 : Addr) (v2 : Int32) (v3 : Int32) (v4 : Int32) (st : List Value) : JFrame := mkF m pc (o_t14 v1 v2 v3 v4) st
abbrev o_t15 (v1 : Addr) (v2 : Int32) (v3 : Int32) (v4 : Int32) (v5 : Addr) : Array Slot := #[.val (.ref v1), .val (.int v2), .val (.int v3), .val (.int v4), .val (.ref v5), .unset]
abbrev o_f15 (m : MethodId) (pc : Nat) (v1 : Addr) (v2 : Int32) (v3 : Int32) (v4 : Int32) (v5 : Addr) (st : List Value) : JFrame := mkF m pc (o_t15 v1 v2 v3 v4 v5) st
abbrev o_t16 (v1 : Addr) (v2 : Int32) (v3 : Int32) (v4 : Int32) (v5 : Addr) (v6 : Addr) : Array Slot := #[.val (.ref v1), .val (.int v2), .val (.int v3), .val (.int v4), .val (.ref v5), .val (.ref v6)]
abbrev o_f16 (m : MethodId) (pc : Nat) (v1 : Addr) (v2 : Int32) (v3 : Int32) (v4 : Int32) (v5 : Addr) (v6 : Addr) (st : List Value) : JFrame := mkF m pc (o_t16 v1 v2 v3 v4 v5 v6) st
abbrev o_t17 (v1 : Addr) (v2 : Int32) (v3 : Int64) : Array Slot := #[.val (.ref v1), .val (.int v2), .val (.long v3), .second]
abbrev o_f17 (m : MethodId) (pc : Nat) (v1 : Addr) (v2 : Int32) (v3 : Int64) (st : List Value) : JFrame := mkF m pc (o_t17 v1 v2 v3) st
abbrev o_t18 (v1 : Addr) (v2 : Int32) (v3 : Int32) : Array Slot := #[.val (.ref v1), .val (.int v2), .val (.int v3), .unset]
abbrev o_f18 (m : MethodId) (pc : Nat) (v1 : Addr) (v2 : Int32) (v3 : Int32) (st : List Value) : JFrame := mkF m pc (o_t18 v1 v2 v3) st
abbrev o_t19 (v1 : Addr) (v2 : Int64) (v3 : Int64) (v4 : Int32) (v5 : Int32) (v6 : Int32) (v7 : Int32) (v8 : Int32) : Array Slot := #[.val (.ref v1), .val (.long v2), .second, .val (.long v3), .second, .val (.int v4), .val (.int v5), .val (.int v6), .val (.int v7), .val (.int v8)]
abbrev o_f19 (m : MethodId) (pc : Nat) (v1 : Addr) (v2 : Int64) (v3 : Int64) (v4 : Int32) (v5 : Int32) (v6 : Int32) (v7 : Int32) (v8 : Int32) (st : List Value) : JFrame := mkF m pc (o_t19 v1 v2 v3 v4 v5 v6 v7 v8) st
abbrev o_t20 (v1 : Addr) (v2 : Int64) (v3 : Int64) (v4 : Int32) : Array Slot := #[.val (.ref v1), .val (.long v2), .second, .val (.long v3), .second, .val (.int v4), .unset, .unset, .unset, .unset]
abbrev o_f20 (m : MethodId) (pc : Nat) (v1 : Addr) (v2 : Int64) (v3 : Int64) (v4 : Int32) (st : List Value) : JFrame := mkF m pc (o_t20 v1 v2 v3 v4) st
abbrev o_t21 (v1 : Addr) (v2 : Int64) (v3 : Int64) (v4 : Int32) (v5 : Int32) : Array Slot := #[.val (.ref v1), .val (.long v2), .second, .val (.long v3), .second, .val (.int v4), .val (.int v5), .unset, .unset, .unset]
abbrev o_f21 (m : MethodId) (pc : Nat) (v1 : Addr) (v2 : Int64) (v3 : Int64) (v4 : Int32) (v5 : Int32) (st : List Value) : JFrame := mkF m pc (o_t21 v1 v2 v3 v4 v5) st
abbrev o_t22 (v1 : Addr) (v2 : Int64) (v3 : Int64) (v4 : Int32) (v5 : Int32) (v6 : Int32) : Array Slot := #[.val (.ref v1), .val (.long v2), .second, .val (.long v3), .second, .val (.int v4), .val (.int v5), .val (.int v6), .unset, .unset]
abbrev o_f22 (m : MethodId) (pc : Nat) (v1 : Addr) (v2 : Int64) (v3 : Int64) (v4 : Int32) (v5 : Int32) (v6 : Int32) (st : List Value) : JFrame := mkF m pc (o_t22 v1 v2 v3 v4 v5 v6) st
abbrev o_t23 (v1 : Addr) (v2 : Int64) (v3 : Int64) (v4 : Int32) (v5 : Int32) (v6 : Int32) (v7 : Int32) : Array Slot := #[.val (.ref v1), .val (.long v2), .second, .val (.long v3), .second, .val (.int v4), .val (.int v5), .val (.int v6), .val (.int v7), .unset]
abbrev o_f23 (m : MethodId) (pc : Nat) (v1 : Addr) (v2 : Int64) (v3 : Int64) (v4 : Int32) (v5 : Int32) (v6 : Int32) (v7 : Int32) (st : List Value) : JFrame := mkF m pc (o_t23 v1 v2 v3 v4 v5 v6 v7) st
abbrev o_t24 (v1 : Addr) (v2 : Int64) (v3 : Int64) (v4 : Int32) : Array Slot := #[.val (.ref v1), .val (.long v2), .second, .val (.long v3), .second, .val (.int v4)]
abbrev o_f24 (m : MethodId) (pc : Nat) (v1 : Addr) (v2 : Int64) (v3 : Int64) (v4 : Int32) (st : List Value) : JFrame := mkF m pc (o_t24 v1 v2 v3 v4) st
abbrev o_t25 (v1 : Addr) (v2 : Addr) : Array Slot := #[.val (.ref v1), .val (.ref v2)]
abbrev o_f25 (m : MethodId) (pc : Nat) (v1 : Addr) (v2 : Addr) (st : List Value) : JFrame := mkF m pc (o_t25 v1 v2) st
abbrev o_t26 (v1 : Int32) : Array Slot := #[.val (.int v1)]
abbrev o_f26 (m : MethodId) (pc : Nat) (v1 : Int32) (st : List Value) : JFrame := mkF m pc (o_t26 v1) st
abbrev o_t27 (v1 : Int64) (v2 : Int32) : Array Slot := #[.val (.long v1), .second, .val (.int v2)]
abbrev o_f27 (m : MethodId) (pc : Nat) (v1 : Int64) (v2 : Int32) (st : List Value) : JFrame := mkF m pc (o_t27 v1 v2) st
abbrev o_t28 (v1 : Int64) (v2 : Int32) (v3 : Int32) (v4 : Int32) (v5 : Int64) : Array Slot := #[.val (.long v1), .second, .val (.int v2), .val (.int v3), .val (.int v4), .val (.long v5), .second]
abbrev o_f28 (m : MethodId) (pc : Nat) (v1 : Int64) (v2 : Int32) (v3 : Int32) (v4 : Int32) (v5 : Int64) (st : List Value) : JFrame := mkF m pc (o_t28 v1 v2 v3 v4 v5) st
abbrev o_t29 (v1 : Int64) (v2 : Int32) (v3 : Int32) (v4 : Int32) (v5 : Int64) (v6 : Int64) : Array Slot := #[.val (.long v1), .second, .val (.int v2), .val (.int v3), .val (.int v4), .val (.long v5), .second, .val (.long v6), .second]
abbrev o_f29 (m : MethodId) (pc : Nat) (v1 : Int64) (v2 : Int32) (v3 : Int32) (v4 : Int32) (v5 : Int64) (v6 : Int64) (st : List Value) : JFrame := mkF m pc (o_t29 v1 v2 v3 v4 v5 v6) st
abbrev o_t30 (v1 : Addr) (v2 : Int64) (v3 : Int32) (v4 : Int32) : Array Slot := #[.val (.ref v1), .val (.long v2), .second, .val (.int v3), .val (.int v4), .unset, .unset, .unset, .unset]
abbrev o_f30 (m : MethodId) (pc : Nat) (v1 : Addr) (v2 : Int64) (v3 : Int32) (v4 : Int32) (st : List Value) : JFrame := mkF m pc (o_t30 v1 v2 v3 v4) st
abbrev o_t31 (v1 : Addr) (v2 : Int64) (v3 : Int32) (v4 : Int32) (v5 : Int64) : Array Slot := #[.val (.ref v1), .val (.long v2), .second, .val (.int v3), .val (.int v4), .val (.long v5), .second, .unset, .unset]
abbrev o_f31 (m : MethodId) (pc : Nat) (v1 : Addr) (v2 : Int64) (v3 : Int32) (v4 : Int32) (v5 : Int64) (st : List Value) : JFrame := mkF m pc (o_t31 v1 v2 v3 v4 v5) st
abbrev o_t32 (v1 : Addr) (v2 : Int64) (v3 : Int32) (v4 : Int32) (v5 : Int64) (v6 : Int64) : Array Slot := #[.val (.ref v1), .val (.long v2), .second, .val (.int v3), .val (.int v4), .val (.long v5), .second, .val (.long v6), .second]
abbrev o_f32 (m : MethodId) (pc : Nat) (v1 : Addr) (v2 : Int64) (v3 : Int32) (v4 : Int32) (v5 : Int64) (v6 : Int64) (st : List Value) : JFrame := mkF m pc (o_t32 v1 v2 v3 v4 v5 v6) st
abbrev o_t33 (v1 : Addr) (v2 : Int64) (v3 : Int64) (v4 : Int64) (v5 : Int32) (v6 : Int64) (v7 : Int32) : Array Slot := #[.val (.ref v1), .val (.long v2), .second, .val (.long v3), .second, .val (.long v4), .second, .val (.int v5), .val (.long v6), .second, .val (.int v7)]
abbrev o_f33 (m : MethodId) (pc : Nat) (v1 : Addr) (v2 : Int64) (v3 : Int64) (v4 : Int64) (v5 : Int32) (v6 : Int64) (v7 : Int32) (st : List Value) : JFrame := mkF m pc (o_t33 v1 v2 v3 v4 v5 v6 v7) st
abbrev o_t34 (v1 : Addr) (v2 : Int64) (v3 : Int64) (v4 : Int64) : Array Slot := #[.val (.ref v1), .val (.long v2), .second, .val (.long v3), .second, .val (.long v4), .second, .unset, .unset, .unset, .unset]
abbrev o_f34 (m : MethodId) (pc : Nat) (v1 : Addr) (v2 : Int64) (v3 : Int64) (v4 : Int64) (st : List Value) : JFrame := mkF m pc (o_t34 v1 v2 v3 v4) st
abbrev o_t35 (v1 : Addr) (v2 : Int64) (v3 : Int64) (v4 : Int64) (v5 : Int32) : Array Slot := #[.val (.ref v1), .val (.long v2), .second, .val (.long v3), .second, .val (.long v4), .second, .val (.int v5), .unset, .unset, .unset]
abbrev o_f35 (m : MethodId) (pc : Nat) (v1 : Addr) (v2 : Int64) (v3 : Int64) (v4 : Int64) (v5 : Int32) (st : List Value) : JFrame := mkF m pc (o_t35 v1 v2 v3 v4 v5) st
abbrev o_t36 (v1 : Addr) (v2 : Int64) (v3 : Int64) (v4 : Int64) (v5 : Int32) (v6 : Int64) : Array Slot := #[.val (.ref v1), .val (.long v2), .second, .val (.long v3), .second, .val (.long v4), .second, .val (.int v5), .val (.long v6), .second, .unset]
abbrev o_f36 (m : MethodId) (pc : Nat) (v1 : Addr) (v2 : Int64) (v3 : Int64) (v4 : Int64) (v5 : Int32) (v6 : Int64) (st : List Value) : JFrame := mkF m pc (o_t36 v1 v2 v3 v4 v5 v6) st
abbrev o_t37 (v1 : Int64) (v2 : Int64) (v3 : Int64) (v4 : Int32) (v5 : Int64) (v6 : Int64) (v7 : Int32) (v8 : Addr) (v9 : Int32) (v10 : Int32) : Array Slot := #[.val (.long v1), .second, .val (.long v2), .second, .val (.long v3), .second, .val (.int v4), .val (.long v5), .second, .val (.long v6), .second, .val (.int v7), .val (.ref v8), .val (.int v9), .val (.int v10)]
abbrev o_f37 (m : MethodId) (pc : Nat) (v1 : Int64) (v2 : Int64) (v3 : Int64) (v4 : Int32) (v5 : Int64) (v6 : Int64) (v7 : Int32) (v8 : Addr) (v9 : Int32) (v10 : Int32) (st : List Value) : JFrame := mkF m pc (o_t37 v1 v2 v3 v4 v5 v6 v7 v8 v9 v10) st
abbrev o_t38 (v1 : Int64) (v2 : Int64) (v3 : Int64) (v4 : Int32) (v5 : Int64) (v6 : Int64) (v7 : Int32) (v8 : Addr) (v9 : Int32) : Array Slot := #[.val (.long v1), .second, .val (.long v2), .second, .val (.long v3), .second, .val (.int v4), .val (.long v5), .second, .val (.long v6), .second, .val (.int v7), .val (.ref v8), .val (.int v9), .unset]
abbrev o_f38 (m : MethodId) (pc : Nat) (v1 : Int64) (v2 : Int64) (v3 : Int64) (v4 : Int32) (v5 : Int64) (v6 : Int64) (v7 : Int32) (v8 : Addr) (v9 : Int32) (st : List Value) : JFrame := mkF m pc (o_t38 v1 v2 v3 v4 v5 v6 v7 v8 v9) st
abbrev o_t39 (v1 : Int64) (v2 : Int64) (v3 : Int64) (v4 : Int32) (v5 : Int64) (v6 : Int64) (v7 : Int32) (v8 : Addr) : Array Slot := #[.val (.long v1), .second, .val (.long v2), .second, .val (.long v3), .second, .val (.int v4), .val (.long v5), .second, .val (.long v6), .second, .val (.int v7), .val (.ref v8), .unset, .unset]
abbrev o_f39 (m : MethodId) (pc : Nat) (v1 : Int64) (v2 : Int64) (v3 : Int64) (v4 : Int32) (v5 : Int64) (v6 : Int64) (v7 : Int32) (v8 : Addr) (st : List Value) : JFrame := mkF m pc (o_t39 v1 v2 v3 v4 v5 v6 v7 v8) st
abbrev o_t40 (v1 : Int64) (v2 : Int64) (v3 : Int64) (v4 : Int32) (v5 : Int64) (v6 : Int64) (v7 : Int32) (v8 : Addr) (v9 : Int32) : Array Slot := #[.val (.long v1), .second, .val (.long v2), .second, .val (.long v3), .second, .val (.int v4), .val (.long v5), .second, .val (.long v6), .second, .val (.int v7), .val (.ref v8), .unset, .val (.int v9)]
abbrev o_f40 (m : MethodId) (pc : Nat) (v1 : Int64) (v2 : Int64) (v3 : Int64) (v4 : Int32) (v5 : Int64) (v6 : Int64) (v7 : Int32) (v8 : Addr) (v9 : Int32) (st : List Value) : JFrame := mkF m pc (o_t40 v1 v2 v3 v4 v5 v6 v7 v8 v9) st
abbrev o_t41 (v1 : Int64) (v2 : Int64) (v3 : Int64) (v4 : Int32) (v5 : Int64) (v6 : Int64) : Array Slot := #[.val (.long v1), .second, .val (.long v2), .second, .val (.long v3), .second, .val (.int v4), .val (.long v5), .second, .val (.long v6), .second, .unset, .unset, .unset, .unset]
abbrev o_f41 (m : MethodId) (pc : Nat) (v1 : Int64) (v2 : Int64) (v3 : Int64) (v4 : Int32) (v5 : Int64) (v6 : Int64) (st : List Value) : JFrame := mkF m pc (o_t41 v1 v2 v3 v4 v5 v6) st
abbrev o_t42 (v1 : Int64) (v2 : Int64) (v3 : Int64) (v4 : Int32) (v5 : Int64) (v6 : Int64) (v7 : Int32) : Array Slot := #[.val (.long v1), .second, .val (.long v2), .second, .val (.long v3), .second, .val (.int v4), .val (.long v5), .second, .val (.long v6), .second, .val (.int v7), .unset, .unset, .unset]
abbrev o_f42 (m : MethodId) (pc : Nat) (v1 : Int64) (v2 : Int64) (v3 : Int64) (v4 : Int32) (v5 : Int64) (v6 : Int64) (v7 : Int32) (st : List Value) : JFrame := mkF m pc (o_t42 v1 v2 v3 v4 v5 v6 v7) st
abbrev o_t43 (v1 : Int64) (v2 : Int64) : Array Slot := #[.val (.long v1), .second, .val (.long v2), .second]
abbrev o_f43 (m : MethodId) (pc : Nat) (v1 : Int64) (v2 : Int64) (st : List Value) : JFrame := mkF m pc (o_t43 v1 v2) st
abbrev o_t44 (v1 : Int64) (v2 : Int64) (v3 : Int64) (v4 : Int32) : Array Slot := #[.val (.long v1), .second, .val (.long v2), .second, .val (.long v3), .second, .val (.int v4), .unset, .unset, .unset, .unset, .unset, .unset, .unset, .unset]
abbrev o_f44 (m : MethodId) (pc : Nat) (v1 : Int64) (v2 : Int64) (v3 : Int64) (v4 : Int32) (st : List Value) : JFrame := mkF m pc (o_t44 v1 v2 v3 v4) st
abbrev o_t45 (v1 : Int64) (v2 : Int64) (v3 : Int64) (v4 : Int32) (v5 : Int64) : Array Slot := #[.val (.long v1), .second, .val (.long v2), .second, .val (.long v3), .second, .val (.int v4), .val (.long v5), .second, .unset, .unset, .unset, .unset, .unset, .unset]
abbrev o_f45 (m : MethodId) (pc : Nat) (v1 : Int64) (v2 : Int64) (v3 : Int64) (v4 : Int32) (v5 : Int64) (st : List Value) : JFrame := mkF m pc (o_t45 v1 v2 v3 v4 v5) st
def o_Pr (Z : State) (n0 : Nat) (pp rc ru wa tm fr : Addr) (tl la L : Int32) (ch gb : Int64) (xs : Nat → Int64) (fs : Nat → Int32) (rs : Nat → Int64) (h : Heap) : Prop :=
 Exa Z h pp o_n1 ∧ Exa Z h ru o_n3 ∧ Exa Z h wa o_n2 ∧ Fld Z h pp o_n1 "cpus" "I" (.int (16 : Int32)) ∧ Fld Z h pp o_n1 "times" "[J" (.ref tm) ∧ Fld Z h pp o_n1 "free" "[I" (.ref fr) ∧ Fld Z h pp o_n1 "head" "I" (.int (0 : Int32)) ∧ Fld Z h pp o_n1 "tail" "I" (.int tl) ∧ Fld Z h pp o_n1 "lastAt" "I" (.int la) ∧ Fld Z h pp o_n1 "runs" "Lcom/example/gapwright/gapwright/profile/FreeRuns;" (.ref ru) ∧ Fld Z h pp o_n1 "firstKnown" "Z" (.int (0 : Int32)) ∧ Fld Z h pp o_n1 "watcher" "Lcom/example/gapwright/gapwright/profile/CpuProfile$Watcher;" (.ref wa) ∧ Fld Z h pp o_n1 "watchedAs" "I" (.int (0 : Int32)) ∧ Fld Z h pp o_n1 "changes" "J" (.long ch) ∧ Fld Z h pp o_n1 "merged" "J" (.long (0 : Int64)) ∧ Fld Z h pp o_n1 "gaveBack" "J" (.long gb) ∧ Fld Z h pp o_n1 "recent" "[J" (.ref rc) ∧ Fld Z h ru o_n3 "nodes" "[[J" .null ∧ o_LA Z h tm L xs ∧ o_IA Z h fr L fs ∧ o_LA Z h rc (24 : Int32) rs ∧ o_ne tm rc ∧ wa < n0 ∧ n0 ≤ pp ∧ n0 ≤ tm ∧ n0 ≤ fr ∧ n0 ≤ rc ∧ n0 ≤ ru
theorem o_d26_136 : decode o_y0 136 = .ok (.iload 7, 2) := by decide +kernel
theorem o_d26_138 : decode o_y0 138 = .ok (.iload 6, 2) := by decide +kernel
theorem o_d26_140 : decode o_y0 140 = .ok (.isub, 1) := by decide +kernel
theorem o_d26_141 : decode o_y0 141 = .ok (.iconst 1, 1) := by decide +kernel
theorem o_d26_142 : decode o_y0 142 = .ok (.if_icmp .le 36, 3) := by decide +kernel
theorem o_d26_145 : decode o_y0 145 = .ok (.iload 6, 2) := by decide +kernel
theorem o_d26_147 : decode o_y0 147 = .ok (.iload 7, 2) := by decide +kernel
theorem o_d26_149 : decode o_y0 149 = .ok (.iadd, 1) := by decide +kernel
theorem o_d26_150 : decode o_y0 150 = .ok (.iconst 1, 1) := by decide +kernel
theorem o_d26_151 : decode o_y0 151 = .ok (.iushr, 1) := by decide +kernel
theorem o_d26_152 : decode o_y0 152 = .ok (.istore 8, 2) := by decide +kernel
theorem o_d26_154 : decode o_y0 154 = .ok (.aload_n 0, 1) := by decide +kernel
theorem o_d26_155 : decode o_y0 155 = .ok (.iload 8, 2) := by decide +kernel
theorem o_d26_157 : decode o_y0 157 = .ok (.laload, 1) := by decide +kernel
theorem o_d26_158 : decode o_y0 158 = .ok (.lload 4, 2) := by decide +kernel
theorem o_d26_160 : decode o_y0 160 = .ok (.lcmp, 1) := by decide +kernel
theorem o_d26_161 : decode o_y0 161 = .ok (.ifCond .gt 10, 3) := by decide +kernel
theorem o_d26_171 : decode o_y0 171 = .ok (.iload 8, 2) := by decide +kernel
theorem o_d26_173 : decode o_y0 173 = .ok (.istore 7, 2) := by decide +kernel
theorem o_d26_175 : decode o_y0 175 = .ok (.goto (-39), 3) := by decide +kernel
theorem o_d26_164 : decode o_y0 164 = .ok (.iload 8, 2) := by decide +kernel
theorem o_d26_166 : decode o_y0 166 = .ok (.istore 6, 2) := by decide +kernel
theorem o_d26_168 : decode o_y0 168 = .ok (.goto 7, 3) := by decide +kernel
theorem o_d26_178 : decode o_y0 178 = .ok (.iload 6, 2) := by decide +kernel
theorem o_d26_180 : decode o_y0 180 = .ok (.ireturn, 1) := by decide +kernel
set_option maxRecDepth 65536 in
set_option maxHeartbeats 40000000 in
theorem o_place3 {p : Program} {l : Launch} {e : Env} {s : State} {m : MethodId} {below : List Frame} {meth : Method} {c : Code} (Z : State) (a0 : Array Value) (hw : ∀ d ∈ tables_1, d.before a0 Z = true) (t : Addr) (n first lim frm : Int32) (time : Int64) (xs : Nat → Int64) (h0 : Heap) (A0 : o_LA Z h0 t n xs) (b1 : 0 ≤ first.toInt) (b2 : first.toInt ≤ frm.toInt) (b3 : frm.toInt < lim.toInt) (b4 : lim.toInt ≤ n.toInt) (b5 : n.toInt ≤ 64)
  (hx : p.tables.exec = Jvm.exec) (hby : c.code = o_y0) (hml : c.maxLocals = 9) (hZ : Z.Warmed39 s.vm) (hown : s.vm.findClass o_n1 = some m.cls) (hret : meth.sig.returnType = (some .int)) (hlk : meth.locks = false) :
  ∀ (k : Nat) (low high v8 : Int32) {T : State} (X0 : Stand p l e (o_R 1 0 0 13) s m #[(.ref t), (.int first), (.int lim), (.int frm), (.long time)] below meth c T [] 0 0) (e0 : T.heap = h0), first.toInt ≤ low.toInt → low.toInt ≤ high.toInt → low.toInt < lim.toInt → high.toInt ≤ lim.toInt → high.toInt - low.toInt + 1 ≤ (k : Int) → (¬ time < xs first.toNatClampNeg → ¬ time < xs low.toNatClampNeg) → o_G p e below s (fun v h L => ∃ r : Int32, v = some (.int r) ∧ L = [] ∧ h = h0 ∧ first.toInt ≤ r.toInt ∧ r.toInt < lim.toInt ∧ (¬ time < xs first.toNatClampNeg → ¬ time < xs r.toNatClampNeg)) 0 0 T (o_f0 m 136 t first lim frm time low high v8 []) := by
 intro k
 induction k with
 | zero => intro low high v8  T X0 e0 g1 g2 g3 g4 g5 hl; exfalso; omega
 | succ k ih =>
 intro low high v8  T X0 e0 g1 g2 g3 g4 g5 hl
 refine o_q T (o_f0 m 138 t first lim frm time low high v8 [(.int high)]) (fun _ k9 => XS.iload X0.here hx rfl (hb hby o_d26_136) rfl k9) ?_
 refine o_q T (o_f0 m 140 t first lim frm time low high v8 [(.int low), (.int high)]) (fun _ k9 => XS.iload X0.here hx rfl (hb hby o_d26_138) rfl k9) ?_
 refine o_q T (o_f0 m 141 t first lim frm time low high v8 [(.int (high - low))]) (fun _ k9 => XS.isub X0.here hx rfl (hb hby o_d26_140) rfl k9) ?_
 refine o_iC (1 : Int32) X0 hx hby o_d26_141 rfl ?_
 by_cases c0 : (1 : Int32) < (high - low)
 ·refine o_cN X0 hx hby o_d26_142 (tlt c0).2.2.2 ?_
  refine o_q T (o_f0 m 147 t first lim frm time low high v8 [(.int low)]) (fun _ k9 => XS.iload X0.here hx rfl (hb hby o_d26_145) rfl k9) ?_
  refine o_q T (o_f0 m 149 t first lim frm time low high v8 [(.int high), (.int low)]) (fun _ k9 => XS.iload X0.here hx rfl (hb hby o_d26_147) rfl k9) ?_
  refine o_q T (o_f0 m 150 t first lim frm time low high v8 [(.int (low + high))]) (fun _ k9 => XS.iadd X0.here hx rfl (hb hby o_d26_149) rfl k9) ?_
  refine o_iC (1 : Int32) X0 hx hby o_d26_150 rfl ?_
  refine o_q T (o_f0 m 152 t first lim frm time low high v8 [(.int (((low + high)).toUInt32 >>> ((1 : Int32) &&& 31).toUInt32).toInt32)]) (fun _ k9 => XS.iushr X0.here hx rfl (hb hby o_d26_151) rfl k9) ?_
  refine o_q T (o_f0 m 154 t first lim frm time low high ((((low + high)).toUInt32 >>> ((1 : Int32) &&& 31).toUInt32).toInt32) []) (fun _ k9 => XS.istore X0.here hx rfl (hb hby o_d26_152) rfl (l' := (o_t0 t first lim frm time low high ((((low + high)).toUInt32 >>> ((1 : Int32) &&& 31).toUInt32).toInt32))) rfl k9) ?_
  refine o_q T (o_f0 m 155 t first lim frm time low high ((((low + high)).toUInt32 >>> ((1 : Int32) &&& 31).toUInt32).toInt32) [(.ref t)]) (fun _ k9 => XS.aloadN X0.here hx rfl (hb hby o_d26_154) rfl rfl k9) ?_
  refine o_q T (o_f0 m 157 t first lim frm time low high ((((low + high)).toUInt32 >>> ((1 : Int32) &&& 31).toUInt32).toInt32) [(.int (((low + high)).toUInt32 >>> ((1 : Int32) &&& 31).toUInt32).toInt32), (.ref t)]) (fun _ k9 => XS.iload X0.here hx rfl (hb hby o_d26_155) rfl k9) ?_
  have hin1 : ¬ ((((low + high)).toUInt32 >>> ((1 : Int32) &&& 31).toUInt32).toInt32 < (0 : Int32)) ∧ (((low + high)).toUInt32 >>> ((1 : Int32) &&& 31).toUInt32).toInt32 < n := by
   have r1 := rng32 low
   have r2 := rng32 high
   have e3 := c_iadd (low) (high)
   have r3 := rng32 ((low + high))
   have e4 := c_iushr ((low + high)) (1 : Int32) 1 (by decide) (by decide)
   have r5 := rng32 n
   have k6 : (0 : Int32).toInt = 0 := by decide
   have k7 : (1 : Int32).toInt = 1 := by decide
   have e8 := c_isub (high) (low)
   have r8 := rng32 ((high - low))
   have d0 : (1 : Int32).toInt < ((high - low)).toInt := Int32.lt_iff_toInt_lt.mp c0
   rw [Int32.lt_iff_toInt_lt, Int32.lt_iff_toInt_lt]
   omega
  refine o_dJ X0 hx hZ e0 hby A0 hin1 o_d26_157 ?_
  refine o_q T (o_f0 m 160 t first lim frm time low high ((((low + high)).toUInt32 >>> ((1 : Int32) &&& 31).toUInt32).toInt32) [(.long time), (.long (xs ((((low + high)).toUInt32 >>> ((1 : Int32) &&& 31).toUInt32).toInt32).toNatClampNeg))]) (fun _ k9 => XS.lload X0.here hx rfl (hb hby o_d26_158) rfl k9) ?_
  refine o_q T (o_f0 m 161 t first lim frm time low high ((((low + high)).toUInt32 >>> ((1 : Int32) &&& 31).toUInt32).toInt32) [(.int (lcmpW (xs ((((low + high)).toUInt32 >>> ((1 : Int32) &&& 31).toUInt32).toInt32).toNatClampNeg) time))]) (fun _ k9 => XS.lcmp X0.here hx rfl (hb hby o_d26_160) rfl k9) ?_
  by_cases c1 : time < (xs ((((low + high)).toUInt32 >>> ((1 : Int32) &&& 31).toUInt32).toInt32).toNatClampNeg)
  ·refine o_fY 171 X0 hx hby o_d26_161 ((if0 _ _).trans (tlt ((lw_gt _ _).mpr c1)).2.2.1) ?_
   refine o_q T (o_f0 m 173 t first lim frm time low high ((((low + high)).toUInt32 >>> ((1 : Int32) &&& 31).toUInt32).toInt32) [(.int (((low + high)).toUInt32 >>> ((1 : Int32) &&& 31).toUInt32).toInt32)]) (fun _ k9 => XS.iload X0.here hx rfl (hb hby o_d26_171) rfl k9) ?_
   refine o_q T (o_f0 m 175 t first lim frm time low ((((low + high)).toUInt32 >>> ((1 : Int32) &&& 31).toUInt32).toInt32) ((((low + high)).toUInt32 >>> ((1 : Int32) &&& 31).toUInt32).toInt32) []) (fun _ k9 => XS.istore X0.here hx rfl (hb hby o_d26_173) rfl (l' := (o_t0 t first lim frm time low ((((low + high)).toUInt32 >>> ((1 : Int32) &&& 31).toUInt32).toInt32) ((((low + high)).toUInt32 >>> ((1 : Int32) &&& 31).toUInt32).toInt32))) rfl k9) ?_
   refine o_go 136 X0 hx hby o_d26_175 ?_
   have q2 : first.toInt ≤ low.toInt := by
    have r1 := rng32 low
    have r2 := rng32 high
    have e3 := c_iadd (low) (high)
    have r3 := rng32 ((low + high))
    have e4 := c_iushr ((low + high)) (1 : Int32) 1 (by decide) (by decide)
    have k5 : (1 : Int32).toInt = 1 := by decide
    have e6 := c_isub (high) (low)
    have r6 := rng32 ((high - low))
    have d0 : (1 : Int32).toInt < ((high - low)).toInt := Int32.lt_iff_toInt_lt.mp c0
    omega
   have q3 : low.toInt ≤ ((((low + high)).toUInt32 >>> ((1 : Int32) &&& 31).toUInt32).toInt32).toInt := by
    have r1 := rng32 low
    have r2 := rng32 high
    have e3 := c_iadd (low) (high)
    have r3 := rng32 ((low + high))
    have e4 := c_iushr ((low + high)) (1 : Int32) 1 (by decide) (by decide)
    have k5 : (1 : Int32).toInt = 1 := by decide
    have e6 := c_isub (high) (low)
    have r6 := rng32 ((high - low))
    have d0 : (1 : Int32).toInt < ((high - low)).toInt := Int32.lt_iff_toInt_lt.mp c0
    omega
   have q4 : low.toInt < lim.toInt := by
    have r1 := rng32 low
    have r2 := rng32 high
    have e3 := c_iadd (low) (high)
    have r3 := rng32 ((low + high))
    have e4 := c_iushr ((low + high)) (1 : Int32) 1 (by decide) (by decide)
    have k5 : (1 : Int32).toInt = 1 := by decide
    have e6 := c_isub (high) (low)
    have r6 := rng32 ((high - low))
    have d0 : (1 : Int32).toInt < ((high - low)).toInt := Int32.lt_iff_toInt_lt.mp c0
    omega
   have q5 : ((((low + high)).toUInt32 >>> ((1 : Int32) &&& 31).toUInt32).toInt32).toInt ≤ lim.toInt := by
    have r1 := rng32 low
    have r2 := rng32 high
    have e3 := c_iadd (low) (high)
    have r3 := rng32 ((low + high))
    have e4 := c_iushr ((low + high)) (1 : Int32) 1 (by decide) (by decide)
    have k5 : (1 : Int32).toInt = 1 := by decide
    have e6 := c_isub (high) (low)
    have r6 := rng32 ((high - low))
    have d0 : (1 : Int32).toInt < ((high - low)).toInt := Int32.lt_iff_toInt_lt.mp c0
    omega
   have q6 : ((((low + high)).toUInt32 >>> ((1 : Int32) &&& 31).toUInt32).toInt32).toInt - low.toInt + 1 ≤ (k : Int) := by
    have r1 := rng32 low
    have r2 := rng32 high
    have e3 := c_iadd (low) (high)
    have r3 := rng32 ((low + high))
    have e4 := c_iushr ((low + high)) (1 : Int32) 1 (by decide) (by decide)
    have k5 : (1 : Int32).toInt = 1 := by decide
    have e6 := c_isub (high) (low)
    have r6 := rng32 ((high - low))
    have d0 : (1 : Int32).toInt < ((high - low)).toInt := Int32.lt_iff_toInt_lt.mp c0
    omega
   exact ih low (((low + high)).toUInt32 >>> ((1 : Int32) &&& 31).toUInt32).toInt32 ((((low + high)).toUInt32 >>> ((1 : Int32) &&& 31).toUInt32).toInt32) X0 e0 q2 q3 q4 q5 q6 hl
  ·refine o_fN X0 hx hby o_d26_161 ((if0 _ _).trans (flt (mt (lw_gt _ _).mp c1)).2.2.1) ?_
   refine o_q T (o_f0 m 166 t first lim frm time low high ((((low + high)).toUInt32 >>> ((1 : Int32) &&& 31).toUInt32).toInt32) [(.int (((low + high)).toUInt32 >>> ((1 : Int32) &&& 31).toUInt32).toInt32)]) (fun _ k9 => XS.iload X0.here hx rfl (hb hby o_d26_164) rfl k9) ?_
   refine o_q T (o_f0 m 168 t first lim frm time ((((low + high)).toUInt32 >>> ((1 : Int32) &&& 31).toUInt32).toInt32) high ((((low + high)).toUInt32 >>> ((1 : Int32) &&& 31).toUInt32).toInt32) []) (fun _ k9 => XS.istore X0.here hx rfl (hb hby o_d26_166) rfl (l' := (o_t0 t first lim frm time ((((low + high)).toUInt32 >>> ((1 : Int32) &&& 31).toUInt32).toInt32) high ((((low + high)).toUInt32 >>> ((1 : Int32) &&& 31).toUInt32).toInt32))) rfl k9) ?_
   refine o_go 175 X0 hx hby o_d26_168 ?_
   refine o_go 136 X0 hx hby o_d26_175 ?_
   have q7 : first.toInt ≤ ((((low + high)).toUInt32 >>> ((1 : Int32) &&& 31).toUInt32).toInt32).toInt := by
    have r1 := rng32 low
    have r2 := rng32 high
    have e3 := c_iadd (low) (high)
    have r3 := rng32 ((low + high))
    have e4 := c_iushr ((low + high)) (1 : Int32) 1 (by decide) (by decide)
    have k5 : (1 : Int32).toInt = 1 := by decide
    have e6 := c_isub (high) (low)
    have r6 := rng32 ((high - low))
    have d0 : (1 : Int32).toInt < ((high - low)).toInt := Int32.lt_iff_toInt_lt.mp c0
    omega
   have q8 : ((((low + high)).toUInt32 >>> ((1 : Int32) &&& 31).toUInt32).toInt32).toInt ≤ high.toInt := by
    have r1 := rng32 low
    have r2 := rng32 high
    have e3 := c_iadd (low) (high)
    have r3 := rng32 ((low + high))
    have e4 := c_iushr ((low + high)) (1 : Int32) 1 (by decide) (by decide)
    have k5 : (1 : Int32).toInt = 1 := by decide
    have e6 := c_isub (high) (low)
    have r6 := rng32 ((high - low))
    have d0 : (1 : Int32).toInt < ((high - low)).toInt := Int32.lt_iff_toInt_lt.mp c0
    omega
   have q9 : ((((low + high)).toUInt32 >>> ((1 : Int32) &&& 31).toUInt32).toInt32).toInt < lim.toInt := by
    have r1 := rng32 low
    have r2 := rng32 high
    have e3 := c_iadd (low) (high)
    have r3 := rng32 ((low + high))
    have e4 := c_iushr ((low + high)) (1 : Int32) 1 (by decide) (by decide)
    have k5 : (1 : Int32).toInt = 1 := by decide
    have e6 := c_isub (high) (low)
    have r6 := rng32 ((high - low))
    have d0 : (1 : Int32).toInt < ((high - low)).toInt := Int32.lt_iff_toInt_lt.mp c0
    omega
   have q10 : high.toInt ≤ lim.toInt := by
    have r1 := rng32 low
    have r2 := rng32 high
    have e3 := c_iadd (low) (high)
    have r3 := rng32 ((low + high))
    have e4 := c_iushr ((low + high)) (1 : Int32) 1 (by decide) (by decide)
    have k5 : (1 : Int32).toInt = 1 := by decide
    have e6 := c_isub (high) (low)
    have r6 := rng32 ((high - low))
    have d0 : (1 : Int32).toInt < ((high - low)).toInt := Int32.lt_iff_toInt_lt.mp c0
    omega
   have q11 : high.toInt - ((((low + high)).toUInt32 >>> ((1 : Int32) &&& 31).toUInt32).toInt32).toInt + 1 ≤ (k : Int) := by
    have r1 := rng32 low
    have r2 := rng32 high
    have e3 := c_iadd (low) (high)
    have r3 := rng32 ((low + high))
    have e4 := c_iushr ((low + high)) (1 : Int32) 1 (by decide) (by decide)
    have k5 : (1 : Int32).toInt = 1 := by decide
    have e6 := c_isub (high) (low)
    have r6 := rng32 ((high - low))
    have d0 : (1 : Int32).toInt < ((high - low)).toInt := Int32.lt_iff_toInt_lt.mp c0
    omega
   exact ih (((low + high)).toUInt32 >>> ((1 : Int32) &&& 31).toUInt32).toInt32 high ((((low + high)).toUInt32 >>> ((1 : Int32) &&& 31).toUInt32).toInt32) X0 e0 q7 q8 q9 q10 q11 (fun _ => c1)
 ·refine o_cY 178 X0 hx hby o_d26_142 (flt c0).2.2.2 ?_
  refine o_q T (o_f0 m 180 t first lim frm time low high v8 [(.int low)]) (fun _ k9 => XS.iload X0.here hx rfl (hb hby o_d26_178) rfl k9) ?_
  exact o_retI X0 hx hlk hret (hb hby o_d26_180) ⟨low, rfl, rfl, e0, g1, g3, hl⟩ (by decide) (by decide)
theorem o_d26_15 : decode o_y0 15 = .ok (.iload 8, 2) := by decide +kernel
theorem o_d26_17 : decode o_y0 17 = .ok (.iload_n 2, 1) := by decide +kernel
theorem o_d26_18 : decode o_y0 18 = .ok (.iload 6, 2) := by decide +kernel
theorem o_d26_20 : decode o_y0 20 = .ok (.isub, 1) := by decide +kernel
theorem o_d26_21 : decode o_y0 21 = .ok (.if_icmp .ge 39, 3) := by decide +kernel
theorem o_d26_24 : decode o_y0 24 = .ok (.aload_n 0, 1) := by decide +kernel
theorem o_d26_25 : decode o_y0 25 = .ok (.iload 6, 2) := by decide +kernel
theorem o_d26_27 : decode o_y0 27 = .ok (.iload 8, 2) := by decide +kernel
theorem o_d26_29 : decode o_y0 29 = .ok (.iadd, 1) := by decide +kernel
theorem o_d26_30 : decode o_y0 30 = .ok (.laload, 1) := by decide +kernel
theorem o_d26_31 : decode o_y0 31 = .ok (.lload 4, 2) := by decide +kernel
theorem o_d26_33 : decode o_y0 33 = .ok (.lcmp, 1) := by decide +kernel
theorem o_d26_34 : decode o_y0 34 = .ok (.ifCond .gt 26, 3) := by decide +kernel
theorem o_d26_60 : decode o_y0 60 = .ok (.iload 6, 2) := by decide +kernel
theorem o_d26_62 : decode o_y0 62 = .ok (.iload 8, 2) := by decide +kernel
theorem o_d26_64 : decode o_y0 64 = .ok (.iadd, 1) := by decide +kernel
theorem o_d26_65 : decode o_y0 65 = .ok (.iload_n 2, 1) := by decide +kernel
theorem o_d26_66 : decode o_y0 66 = .ok (.invokestatic 107, 3) := by decide +kernel
theorem o_d21_0 : decode o_y1 0 = .ok (.iload_n 0, 1) := by decide +kernel
theorem o_d21_1 : decode o_y1 1 = .ok (.iload_n 1, 1) := by decide +kernel
theorem o_d21_2 : decode o_y1 2 = .ok (.if_icmp .gt 7, 3) := by decide +kernel
theorem o_d21_9 : decode o_y1 9 = .ok (.iload_n 1, 1) := by decide +kernel
theorem o_d21_10 : decode o_y1 10 = .ok (.ireturn, 1) := by decide +kernel
theorem o_d21_5 : decode o_y1 5 = .ok (.iload_n 0, 1) := by decide +kernel
theorem o_d21_6 : decode o_y1 6 = .ok (.goto 4, 3) := by decide +kernel
theorem o_pn21 : plainFor (⟨"java/lang/Math", "min", "(II)I"⟩ : MethodName) = true := Jvm.Free.JP.mathPlain rfl (by decide +kernel)
set_option maxRecDepth 65536 in
set_option maxHeartbeats 40000000 in
theorem o_k21_1 (l : Launch) (Z : State) (a0 : Array Value) (hw : ∀ d ∈ tables_1, d.before a0 Z = true) (p0 : Int32) (p1 : Int32) (h0 : Heap)  :
  o_C l (⟨"java/lang/Math", "min", "(II)I"⟩ : MethodName) o_y1 2 (some .int) (o_R 0 0 0 0) Z h0 #[(.int p0), (.int p1)] (o_P (some (if p1 < p0 then (.int p1) else (.int p0))) h0) := by
 refine o_body o_pn21 ?_
 intro p e s m below meth c s₁ hx hby hml hZ hown hnm hret hlk X0 e0
 refine o_cast (f' := (o_f1 m 0 p0 p1 [])) (by first | (simp [entryFrame, mkF, argsToLocals, Value.category, maxLocals]; done) | rfl) ?_
 refine o_q s₁ (o_f1 m 1 p0 p1 [(.int p0)]) (fun _ k9 => XS.iloadN X0.here hx rfl (hb hby o_d21_0) rfl k9) ?_
 refine o_q s₁ (o_f1 m 2 p0 p1 [(.int p1), (.int p0)]) (fun _ k9 => XS.iloadN X0.here hx rfl (hb hby o_d21_1) rfl k9) ?_
 by_cases c0 : p1 < p0
 ·refine o_cY 9 X0 hx hby o_d21_2 (tlt c0).2.2.1 ?_
  refine o_q s₁ (o_f1 m 10 p0 p1 [(.int p1)]) (fun _ k9 => XS.iloadN X0.here hx rfl (hb hby o_d21_9) rfl k9) ?_
  exact o_retI X0 hx hlk hret (hb hby o_d21_10) ⟨by simp only [if_pos c0], rfl, e0⟩ (by decide) (by decide)
 ·refine o_cN X0 hx hby o_d21_2 (flt c0).2.2.1 ?_
  refine o_q s₁ (o_f1 m 6 p0 p1 [(.int p0)]) (fun _ k9 => XS.iloadN X0.here hx rfl (hb hby o_d21_5) rfl k9) ?_
  refine o_go 10 X0 hx hby o_d21_6 ?_
  exact o_retI X0 hx hlk hret (hb hby o_d21_10) ⟨by simp only [if_neg c0], rfl, e0⟩ (by decide) (by decide)
theorem o_pd4 : parseMethodDescriptor "(II)I" = some ⟨[.int, .int], some .int⟩ := by decide +kernel
theorem o_d26_69 : decode o_y0 69 = .ok (.istore 7, 2) := by decide +kernel
theorem o_d26_71 : decode o_y0 71 = .ok (.goto 65, 3) := by decide +kernel
theorem o_d26_37 : decode o_y0 37 = .ok (.iload 6, 2) := by decide +kernel
theorem o_d26_39 : decode o_y0 39 = .ok (.iload 8, 2) := by decide +kernel
theorem o_d26_41 : decode o_y0 41 = .ok (.iadd, 1) := by decide +kernel
theorem o_d26_42 : decode o_y0 42 = .ok (.istore 6, 2) := by decide +kernel
theorem o_d26_44 : decode o_y0 44 = .ok (.iconst 2, 1) := by decide +kernel
theorem o_d26_45 : decode o_y0 45 = .ok (.iload 8, 2) := by decide +kernel
theorem o_d26_47 : decode o_y0 47 = .ok (.imul, 1) := by decide +kernel
theorem o_d26_48 : decode o_y0 48 = .ok (.iload_n 2, 1) := by decide +kernel
theorem o_d26_49 : decode o_y0 49 = .ok (.iload 6, 2) := by decide +kernel
theorem o_d26_51 : decode o_y0 51 = .ok (.isub, 1) := by decide +kernel
theorem o_d26_52 : decode o_y0 52 = .ok (.invokestatic 107, 3) := by decide +kernel
theorem o_d26_55 : decode o_y0 55 = .ok (.istore 8, 2) := by decide +kernel
theorem o_d26_57 : decode o_y0 57 = .ok (.goto (-42), 3) := by decide +kernel
set_option maxRecDepth 65536 in
set_option maxHeartbeats 40000000 in
theorem o_place1 {p : Program} {l : Launch} {e : Env} {s : State} {m : MethodId} {below : List Frame} {meth : Method} {c : Code} (Z : State) (a0 : Array Value) (hw : ∀ d ∈ tables_1, d.before a0 Z = true) (t : Addr) (n first lim frm : Int32) (time : Int64) (xs : Nat → Int64) (h0 : Heap) (A0 : o_LA Z h0 t n xs) (b1 : 0 ≤ first.toInt) (b2 : first.toInt ≤ frm.toInt) (b3 : frm.toInt < lim.toInt) (b4 : lim.toInt ≤ n.toInt) (b5 : n.toInt ≤ 64)
  (hx : p.tables.exec = Jvm.exec) (hby : c.code = o_y0) (hml : c.maxLocals = 9) (hZ : Z.Warmed39 s.vm) (hown : s.vm.findClass o_n1 = some m.cls) (hret : meth.sig.returnType = (some .int)) (hlk : meth.locks = false) :
  ∀ (k : Nat) (low step : Int32) {T : State} (X0 : Stand p l e (o_R 1 0 0 13) s m #[(.ref t), (.int first), (.int lim), (.int frm), (.long time)] below meth c T [] 0 0) (e0 : T.heap = h0), first.toInt ≤ low.toInt → low.toInt < lim.toInt → 1 ≤ step.toInt → step.toInt ≤ lim.toInt - low.toInt → lim.toInt - low.toInt ≤ (k : Int) → ¬ time < xs low.toNatClampNeg → o_G p e below s (fun v h L => ∃ r : Int32, v = some (.int r) ∧ L = [] ∧ h = h0 ∧ first.toInt ≤ r.toInt ∧ r.toInt < lim.toInt ∧ (¬ time < xs first.toNatClampNeg → ¬ time < xs r.toNatClampNeg)) 0 0 T (o_f2 m 15 t first lim frm time low step []) := by
 intro k
 induction k with
 | zero => intro low step  T X0 e0 g1 g2 g3 g4 g5 hl; exfalso; omega
 | succ k ih =>
 intro low step  T X0 e0 g1 g2 g3 g4 g5 hl
 refine o_q T (o_f2 m 17 t first lim frm time low step [(.int step)]) (fun _ k9 => XS.iload X0.here hx rfl (hb hby o_d26_15) rfl k9) ?_
 refine o_q T (o_f2 m 18 t first lim frm time low step [(.int lim), (.int step)]) (fun _ k9 => XS.iloadN X0.here hx rfl (hb hby o_d26_17) rfl k9) ?_
 refine o_q T (o_f2 m 20 t first lim frm time low step [(.int low), (.int lim), (.int step)]) (fun _ k9 => XS.iload X0.here hx rfl (hb hby o_d26_18) rfl k9) ?_
 refine o_q T (o_f2 m 21 t first lim frm time low step [(.int (lim - low)), (.int step)]) (fun _ k9 => XS.isub X0.here hx rfl (hb hby o_d26_20) rfl k9) ?_
 by_cases c0 : step < (lim - low)
 ·refine o_cN X0 hx hby o_d26_21 (tlt c0).2.1 ?_
  refine o_q T (o_f2 m 25 t first lim frm time low step [(.ref t)]) (fun _ k9 => XS.aloadN X0.here hx rfl (hb hby o_d26_24) rfl rfl k9) ?_
  refine o_q T (o_f2 m 27 t first lim frm time low step [(.int low), (.ref t)]) (fun _ k9 => XS.iload X0.here hx rfl (hb hby o_d26_25) rfl k9) ?_
  refine o_q T (o_f2 m 29 t first lim frm time low step [(.int step), (.int low), (.ref t)]) (fun _ k9 => XS.iload X0.here hx rfl (hb hby o_d26_27) rfl k9) ?_
  refine o_q T (o_f2 m 30 t first lim frm time low step [(.int (low + step)), (.ref t)]) (fun _ k9 => XS.iadd X0.here hx rfl (hb hby o_d26_29) rfl k9) ?_
  have hin1 : ¬ ((low + step) < (0 : Int32)) ∧ (low + step) < n := by
   have r1 := rng32 low
   have r2 := rng32 step
   have e3 := c_iadd (low) (step)
   have r3 := rng32 ((low + step))
   have r4 := rng32 n
   have k5 : (0 : Int32).toInt = 0 := by decide
   have r6 := rng32 lim
   have e7 := c_isub (lim) (low)
   have r7 := rng32 ((lim - low))
   have d0 : step.toInt < ((lim - low)).toInt := Int32.lt_iff_toInt_lt.mp c0
   rw [Int32.lt_iff_toInt_lt, Int32.lt_iff_toInt_lt]
   omega
  refine o_dJ X0 hx hZ e0 hby A0 hin1 o_d26_30 ?_
  refine o_q T (o_f2 m 33 t first lim frm time low step [(.long time), (.long (xs ((low + step)).toNatClampNeg))]) (fun _ k9 => XS.lload X0.here hx rfl (hb hby o_d26_31) rfl k9) ?_
  refine o_q T (o_f2 m 34 t first lim frm time low step [(.int (lcmpW (xs ((low + step)).toNatClampNeg) time))]) (fun _ k9 => XS.lcmp X0.here hx rfl (hb hby o_d26_33) rfl k9) ?_
  by_cases c1 : time < (xs ((low + step)).toNatClampNeg)
  ·refine o_fY 60 X0 hx hby o_d26_34 ((if0 _ _).trans (tlt ((lw_gt _ _).mpr c1)).2.2.1) ?_
   refine o_q T (o_f2 m 62 t first lim frm time low step [(.int low)]) (fun _ k9 => XS.iload X0.here hx rfl (hb hby o_d26_60) rfl k9) ?_
   refine o_q T (o_f2 m 64 t first lim frm time low step [(.int step), (.int low)]) (fun _ k9 => XS.iload X0.here hx rfl (hb hby o_d26_62) rfl k9) ?_
   refine o_q T (o_f2 m 65 t first lim frm time low step [(.int (low + step))]) (fun _ k9 => XS.iadd X0.here hx rfl (hb hby o_d26_64) rfl k9) ?_
   refine o_q T (o_f2 m 66 t first lim frm time low step [(.int lim), (.int (low + step))]) (fun _ k9 => XS.iloadN X0.here hx rfl (hb hby o_d26_65) rfl k9) ?_
   obtain ⟨v2, T2, L2, hQ2, X2, st2⟩ := o_callS X0 hx hZ e0 hown (o_m hw 153 rfl) (o_m hw 134 rfl) (by decide) (o_m hw 135 rfl) (o_m hw 2 rfl) (o_k21_1 l Z a0 hw (low + step) lim h0 ) (g := (o_f2 m 66 t first lim frm time low step [(.int lim), (.int (low + step))])) rfl (by rw [hml]; rfl) rfl (argsL := [(.int (low + step)), (.int lim)]) (rest := []) rfl (lenOf o_pd4 rfl) rfl (hb hby o_d26_66) (o_b rfl) (o_b rfl) (o_b rfl) (o_b rfl)
   obtain ⟨rfl, rfl, e2⟩ := hQ2
   rw [List.append_nil] at X2
   by_cases c2 : lim < (low + step)
   ·rw [if_pos c2] at st2
    refine o_q T2 (o_f2 m 69 t first lim frm time low step [(.int lim)]) st2 ?_
    refine o_q T2 (o_f0 m 71 t first lim frm time low lim step []) (fun _ k9 => XS.istore X2.here hx rfl (hb hby o_d26_69) rfl (l' := (o_t0 t first lim frm time low lim step)) rfl k9) ?_
    refine o_go 136 X2 hx hby o_d26_71 ?_
    have q3 : first.toInt ≤ low.toInt := by
     have r1 := rng32 low
     have r2 := rng32 lim
     have r3 := rng32 step
     have e4 := c_isub (lim) (low)
     have r4 := rng32 ((lim - low))
     have e5 := c_iadd (low) (step)
     have r5 := rng32 ((low + step))
     have d0 : step.toInt < ((lim - low)).toInt := Int32.lt_iff_toInt_lt.mp c0
     have d2 : lim.toInt < ((low + step)).toInt := Int32.lt_iff_toInt_lt.mp c2
     omega
    have q4 : low.toInt ≤ lim.toInt := by
     have r1 := rng32 low
     have r2 := rng32 lim
     have r3 := rng32 step
     have e4 := c_isub (lim) (low)
     have r4 := rng32 ((lim - low))
     have e5 := c_iadd (low) (step)
     have r5 := rng32 ((low + step))
     have d0 : step.toInt < ((lim - low)).toInt := Int32.lt_iff_toInt_lt.mp c0
     have d2 : lim.toInt < ((low + step)).toInt := Int32.lt_iff_toInt_lt.mp c2
     omega
    have q5 : low.toInt < lim.toInt := by
     have r1 := rng32 low
     have r2 := rng32 lim
     have r3 := rng32 step
     have e4 := c_isub (lim) (low)
     have r4 := rng32 ((lim - low))
     have e5 := c_iadd (low) (step)
     have r5 := rng32 ((low + step))
     have d0 : step.toInt < ((lim - low)).toInt := Int32.lt_iff_toInt_lt.mp c0
     have d2 : lim.toInt < ((low + step)).toInt := Int32.lt_iff_toInt_lt.mp c2
     omega
    have q6 : lim.toInt ≤ lim.toInt := by
     have r1 := rng32 low
     have r2 := rng32 lim
     have r3 := rng32 step
     have e4 := c_isub (lim) (low)
     have r4 := rng32 ((lim - low))
     have e5 := c_iadd (low) (step)
     have r5 := rng32 ((low + step))
     have d0 : step.toInt < ((lim - low)).toInt := Int32.lt_iff_toInt_lt.mp c0
     have d2 : lim.toInt < ((low + step)).toInt := Int32.lt_iff_toInt_lt.mp c2
     omega
    have q7 : lim.toInt - low.toInt + 1 ≤ (100 : Nat) := by
     have r1 := rng32 low
     have r2 := rng32 lim
     have r3 := rng32 step
     have e4 := c_isub (lim) (low)
     have r4 := rng32 ((lim - low))
     have e5 := c_iadd (low) (step)
     have r5 := rng32 ((low + step))
     have d0 : step.toInt < ((lim - low)).toInt := Int32.lt_iff_toInt_lt.mp c0
     have d2 : lim.toInt < ((low + step)).toInt := Int32.lt_iff_toInt_lt.mp c2
     omega
    exact o_place3 Z a0 hw t n first lim frm time xs h0 A0 b1 b2 b3 b4 b5 hx hby hml hZ hown hret hlk 100 low lim (step) X2 e2 q3 q4 q5 q6 q7 (fun _ => hl)
   ·rw [if_neg c2] at st2
    refine o_q T2 (o_f2 m 69 t first lim frm time low step [(.int (low + step))]) st2 ?_
    refine o_q T2 (o_f0 m 71 t first lim frm time low (low + step) step []) (fun _ k9 => XS.istore X2.here hx rfl (hb hby o_d26_69) rfl (l' := (o_t0 t first lim frm time low (low + step) step)) rfl k9) ?_
    refine o_go 136 X2 hx hby o_d26_71 ?_
    have q8 : first.toInt ≤ low.toInt := by
     have r1 := rng32 low
     have r2 := rng32 step
     have e3 := c_iadd (low) (step)
     have r3 := rng32 ((low + step))
     have r4 := rng32 lim
     have e5 := c_isub (lim) (low)
     have r5 := rng32 ((lim - low))
     have d0 : step.toInt < ((lim - low)).toInt := Int32.lt_iff_toInt_lt.mp c0
     have d2 : ¬ (lim.toInt < ((low + step)).toInt) := mt Int32.lt_iff_toInt_lt.mpr c2
     omega
    have q9 : low.toInt ≤ ((low + step)).toInt := by
     have r1 := rng32 low
     have r2 := rng32 step
     have e3 := c_iadd (low) (step)
     have r3 := rng32 ((low + step))
     have r4 := rng32 lim
     have e5 := c_isub (lim) (low)
     have r5 := rng32 ((lim - low))
     have d0 : step.toInt < ((lim - low)).toInt := Int32.lt_iff_toInt_lt.mp c0
     have d2 : ¬ (lim.toInt < ((low + step)).toInt) := mt Int32.lt_iff_toInt_lt.mpr c2
     omega
    have q10 : low.toInt < lim.toInt := by
     have r1 := rng32 low
     have r2 := rng32 step
     have e3 := c_iadd (low) (step)
     have r3 := rng32 ((low + step))
     have r4 := rng32 lim
     have e5 := c_isub (lim) (low)
     have r5 := rng32 ((lim - low))
     have d0 : step.toInt < ((lim - low)).toInt := Int32.lt_iff_toInt_lt.mp c0
     have d2 : ¬ (lim.toInt < ((low + step)).toInt) := mt Int32.lt_iff_toInt_lt.mpr c2
     omega
    have q11 : ((low + step)).toInt ≤ lim.toInt := by
     have r1 := rng32 low
     have r2 := rng32 step
     have e3 := c_iadd (low) (step)
     have r3 := rng32 ((low + step))
     have r4 := rng32 lim
     have e5 := c_isub (lim) (low)
     have r5 := rng32 ((lim - low))
     have d0 : step.toInt < ((lim - low)).toInt := Int32.lt_iff_toInt_lt.mp c0
     have d2 : ¬ (lim.toInt < ((low + step)).toInt) := mt Int32.lt_iff_toInt_lt.mpr c2
     omega
    have q12 : ((low + step)).toInt - low.toInt + 1 ≤ (100 : Nat) := by
     have r1 := rng32 low
     have r2 := rng32 step
     have e3 := c_iadd (low) (step)
     have r3 := rng32 ((low + step))
     have r4 := rng32 lim
     have e5 := c_isub (lim) (low)
     have r5 := rng32 ((lim - low))
     have d0 : step.toInt < ((lim - low)).toInt := Int32.lt_iff_toInt_lt.mp c0
     have d2 : ¬ (lim.toInt < ((low + step)).toInt) := mt Int32.lt_iff_toInt_lt.mpr c2
     omega
    exact o_place3 Z a0 hw t n first lim frm time xs h0 A0 b1 b2 b3 b4 b5 hx hby hml hZ hown hret hlk 100 low ((low + step)) (step) X2 e2 q8 q9 q10 q11 q12 (fun _ => hl)
  ·refine o_fN X0 hx hby o_d26_34 ((if0 _ _).trans (flt (mt (lw_gt _ _).mp c1)).2.2.1) ?_
   refine o_q T (o_f2 m 39 t first lim frm time low step [(.int low)]) (fun _ k9 => XS.iload X0.here hx rfl (hb hby o_d26_37) rfl k9) ?_
   refine o_q T (o_f2 m 41 t first lim frm time low step [(.int step), (.int low)]) (fun _ k9 => XS.iload X0.here hx rfl (hb hby o_d26_39) rfl k9) ?_
   refine o_q T (o_f2 m 42 t first lim frm time low step [(.int (low + step))]) (fun _ k9 => XS.iadd X0.here hx rfl (hb hby o_d26_41) rfl k9) ?_
   refine o_q T (o_f2 m 44 t first lim frm time (low + step) step []) (fun _ k9 => XS.istore X0.here hx rfl (hb hby o_d26_42) rfl (l' := (o_t2 t first lim frm time (low + step) step)) rfl k9) ?_
   refine o_iC (2 : Int32) X0 hx hby o_d26_44 rfl ?_
   refine o_q T (o_f2 m 47 t first lim frm time (low + step) step [(.int step), (.int (2 : Int32))]) (fun _ k9 => XS.iload X0.here hx rfl (hb hby o_d26_45) rfl k9) ?_
   refine o_q T (o_f2 m 48 t first lim frm time (low + step) step [(.int ((2 : Int32) * step))]) (fun _ k9 => XS.imul X0.here hx rfl (hb hby o_d26_47) rfl k9) ?_
   refine o_q T (o_f2 m 49 t first lim frm time (low + step) step [(.int lim), (.int ((2 : Int32) * step))]) (fun _ k9 => XS.iloadN X0.here hx rfl (hb hby o_d26_48) rfl k9) ?_
   refine o_q T (o_f2 m 51 t first lim frm time (low + step) step [(.int (low + step)), (.int lim), (.int ((2 : Int32) * step))]) (fun _ k9 => XS.iload X0.here hx rfl (hb hby o_d26_49) rfl k9) ?_
   refine o_q T (o_f2 m 52 t first lim frm time (low + step) step [(.int (lim - (low + step))), (.int ((2 : Int32) * step))]) (fun _ k9 => XS.isub X0.here hx rfl (hb hby o_d26_51) rfl k9) ?_
   obtain ⟨v13, T13, L13, hQ13, X13, st13⟩ := o_callS X0 hx hZ e0 hown (o_m hw 153 rfl) (o_m hw 134 rfl) (by decide) (o_m hw 135 rfl) (o_m hw 2 rfl) (o_k21_1 l Z a0 hw ((2 : Int32) * step) (lim - (low + step)) h0 ) (g := (o_f2 m 52 t first lim frm time (low + step) step [(.int (lim - (low + step))), (.int ((2 : Int32) * step))])) rfl (by rw [hml]; rfl) rfl (argsL := [(.int ((2 : Int32) * step)), (.int (lim - (low + step)))]) (rest := []) rfl (lenOf o_pd4 rfl) rfl (hb hby o_d26_52) (o_b rfl) (o_b rfl) (o_b rfl) (o_b rfl)
   obtain ⟨rfl, rfl, e13⟩ := hQ13
   rw [List.append_nil] at X13
   by_cases c2 : (lim - (low + step)) < ((2 : Int32) * step)
   ·rw [if_pos c2] at st13
    refine o_q T13 (o_f2 m 55 t first lim frm time (low + step) step [(.int (lim - (low + step)))]) st13 ?_
    refine o_q T13 (o_f2 m 57 t first lim frm time (low + step) (lim - (low + step)) []) (fun _ k9 => XS.istore X13.here hx rfl (hb hby o_d26_55) rfl (l' := (o_t2 t first lim frm time (low + step) (lim - (low + step)))) rfl k9) ?_
    refine o_go 15 X13 hx hby o_d26_57 ?_
    have q14 : first.toInt ≤ ((low + step)).toInt := by
     have r1 := rng32 low
     have r2 := rng32 step
     have e3 := c_iadd (low) (step)
     have r3 := rng32 ((low + step))
     have r4 := rng32 lim
     have e5 := c_isub (lim) ((low + step))
     have r5 := rng32 ((lim - (low + step)))
     have e6 := c_isub (lim) (low)
     have r6 := rng32 ((lim - low))
     have k7 : (2 : Int32).toInt = 2 := by decide
     have e8 := c_imul ((2 : Int32)) (step)
     have r8 := rng32 (((2 : Int32) * step))
     rw [show (2 : Int32).toInt = 2 from by decide] at e8
     have d0 : step.toInt < ((lim - low)).toInt := Int32.lt_iff_toInt_lt.mp c0
     have d2 : ((lim - (low + step))).toInt < (((2 : Int32) * step)).toInt := Int32.lt_iff_toInt_lt.mp c2
     omega
    have q15 : ((low + step)).toInt < lim.toInt := by
     have r1 := rng32 low
     have r2 := rng32 step
     have e3 := c_iadd (low) (step)
     have r3 := rng32 ((low + step))
     have r4 := rng32 lim
     have e5 := c_isub (lim) ((low + step))
     have r5 := rng32 ((lim - (low + step)))
     have e6 := c_isub (lim) (low)
     have r6 := rng32 ((lim - low))
     have k7 : (2 : Int32).toInt = 2 := by decide
     have e8 := c_imul ((2 : Int32)) (step)
     have r8 := rng32 (((2 : Int32) * step))
     rw [show (2 : Int32).toInt = 2 from by decide] at e8
     have d0 : step.toInt < ((lim - low)).toInt := Int32.lt_iff_toInt_lt.mp c0
     have d2 : ((lim - (low + step))).toInt < (((2 : Int32) * step)).toInt := Int32.lt_iff_toInt_lt.mp c2
     omega
    have q16 : 1 ≤ ((lim - (low + step))).toInt := by
     have r1 := rng32 low
     have r2 := rng32 step
     have e3 := c_iadd (low) (step)
     have r3 := rng32 ((low + step))
     have r4 := rng32 lim
     have e5 := c_isub (lim) ((low + step))
     have r5 := rng32 ((lim - (low + step)))
     have e6 := c_isub (lim) (low)
     have r6 := rng32 ((lim - low))
     have k7 : (2 : Int32).toInt = 2 := by decide
     have e8 := c_imul ((2 : Int32)) (step)
     have r8 := rng32 (((2 : Int32) * step))
     rw [show (2 : Int32).toInt = 2 from by decide] at e8
     have d0 : step.toInt < ((lim - low)).toInt := Int32.lt_iff_toInt_lt.mp c0
     have d2 : ((lim - (low + step))).toInt < (((2 : Int32) * step)).toInt := Int32.lt_iff_toInt_lt.mp c2
     omega
    have q17 : ((lim - (low + step))).toInt ≤ lim.toInt - ((low + step)).toInt := by
     have r1 := rng32 low
     have r2 := rng32 step
     have e3 := c_iadd (low) (step)
     have r3 := rng32 ((low + step))
     have r4 := rng32 lim
     have e5 := c_isub (lim) ((low + step))
     have r5 := rng32 ((lim - (low + step)))
     have e6 := c_isub (lim) (low)
     have r6 := rng32 ((lim - low))
     have k7 : (2 : Int32).toInt = 2 := by decide
     have e8 := c_imul ((2 : Int32)) (step)
     have r8 := rng32 (((2 : Int32) * step))
     rw [show (2 : Int32).toInt = 2 from by decide] at e8
     have d0 : step.toInt < ((lim - low)).toInt := Int32.lt_iff_toInt_lt.mp c0
     have d2 : ((lim - (low + step))).toInt < (((2 : Int32) * step)).toInt := Int32.lt_iff_toInt_lt.mp c2
     omega
    have q18 : lim.toInt - ((low + step)).toInt ≤ (k : Int) := by
     have r1 := rng32 low
     have r2 := rng32 step
     have e3 := c_iadd (low) (step)
     have r3 := rng32 ((low + step))
     have r4 := rng32 lim
     have e5 := c_isub (lim) ((low + step))
     have r5 := rng32 ((lim - (low + step)))
     have e6 := c_isub (lim) (low)
     have r6 := rng32 ((lim - low))
     have k7 : (2 : Int32).toInt = 2 := by decide
     have e8 := c_imul ((2 : Int32)) (step)
     have r8 := rng32 (((2 : Int32) * step))
     rw [show (2 : Int32).toInt = 2 from by decide] at e8
     have d0 : step.toInt < ((lim - low)).toInt := Int32.lt_iff_toInt_lt.mp c0
     have d2 : ((lim - (low + step))).toInt < (((2 : Int32) * step)).toInt := Int32.lt_iff_toInt_lt.mp c2
     omega
    exact ih (low + step) ((lim - (low + step))) X13 e13 q14 q15 q16 q17 q18 c1
   ·rw [if_neg c2] at st13
    refine o_q T13 (o_f2 m 55 t first lim frm time (low + step) step [(.int ((2 : Int32) * step))]) st13 ?_
    refine o_q T13 (o_f2 m 57 t first lim frm time (low + step) ((2 : Int32) * step) []) (fun _ k9 => XS.istore X13.here hx rfl (hb hby o_d26_55) rfl (l' := (o_t2 t first lim frm time (low + step) ((2 : Int32) * step))) rfl k9) ?_
    refine o_go 15 X13 hx hby o_d26_57 ?_
    have q19 : first.toInt ≤ ((low + step)).toInt := by
     have r1 := rng32 low
     have r2 := rng32 step
     have e3 := c_iadd (low) (step)
     have r3 := rng32 ((low + step))
     have k4 : (2 : Int32).toInt = 2 := by decide
     have e5 := c_imul ((2 : Int32)) (step)
     have r5 := rng32 (((2 : Int32) * step))
     rw [show (2 : Int32).toInt = 2 from by decide] at e5
     have r6 := rng32 lim
     have e7 := c_isub (lim) (low)
     have r7 := rng32 ((lim - low))
     have e8 := c_isub (lim) ((low + step))
     have r8 := rng32 ((lim - (low + step)))
     have d0 : step.toInt < ((lim - low)).toInt := Int32.lt_iff_toInt_lt.mp c0
     have d2 : ¬ (((lim - (low + step))).toInt < (((2 : Int32) * step)).toInt) := mt Int32.lt_iff_toInt_lt.mpr c2
     omega
    have q20 : ((low + step)).toInt < lim.toInt := by
     have r1 := rng32 low
     have r2 := rng32 step
     have e3 := c_iadd (low) (step)
     have r3 := rng32 ((low + step))
     have k4 : (2 : Int32).toInt = 2 := by decide
     have e5 := c_imul ((2 : Int32)) (step)
     have r5 := rng32 (((2 : Int32) * step))
     rw [show (2 : Int32).toInt = 2 from by decide] at e5
     have r6 := rng32 lim
     have e7 := c_isub (lim) (low)
     have r7 := rng32 ((lim - low))
     have e8 := c_isub (lim) ((low + step))
     have r8 := rng32 ((lim - (low + step)))
     have d0 : step.toInt < ((lim - low)).toInt := Int32.lt_iff_toInt_lt.mp c0
     have d2 : ¬ (((lim - (low + step))).toInt < (((2 : Int32) * step)).toInt) := mt Int32.lt_iff_toInt_lt.mpr c2
     omega
    have q21 : 1 ≤ (((2 : Int32) * step)).toInt := by
     have r1 := rng32 low
     have r2 := rng32 step
     have e3 := c_iadd (low) (step)
     have r3 := rng32 ((low + step))
     have k4 : (2 : Int32).toInt = 2 := by decide
     have e5 := c_imul ((2 : Int32)) (step)
     have r5 := rng32 (((2 : Int32) * step))
     rw [show (2 : Int32).toInt = 2 from by decide] at e5
     have r6 := rng32 lim
     have e7 := c_isub (lim) (low)
     have r7 := rng32 ((lim - low))
     have e8 := c_isub (lim) ((low + step))
     have r8 := rng32 ((lim - (low + step)))
     have d0 : step.toInt < ((lim - low)).toInt := Int32.lt_iff_toInt_lt.mp c0
     have d2 : ¬ (((lim - (low + step))).toInt < (((2 : Int32) * step)).toInt) := mt Int32.lt_iff_toInt_lt.mpr c2
     omega
    have q22 : (((2 : Int32) * step)).toInt ≤ lim.toInt - ((low + step)).toInt := by
     have r1 := rng32 low
     have r2 := rng32 step
     have e3 := c_iadd (low) (step)
     have r3 := rng32 ((low + step))
     have k4 : (2 : Int32).toInt = 2 := by decide
     have e5 := c_imul ((2 : Int32)) (step)
     have r5 := rng32 (((2 : Int32) * step))
     rw [show (2 : Int32).toInt = 2 from by decide] at e5
     have r6 := rng32 lim
     have e7 := c_isub (lim) (low)
     have r7 := rng32 ((lim - low))
     have e8 := c_isub (lim) ((low + step))
     have r8 := rng32 ((lim - (low + step)))
     have d0 : step.toInt < ((lim - low)).toInt := Int32.lt_iff_toInt_lt.mp c0
     have d2 : ¬ (((lim - (low + step))).toInt < (((2 : Int32) * step)).toInt) := mt Int32.lt_iff_toInt_lt.mpr c2
     omega
    have q23 : lim.toInt - ((low + step)).toInt ≤ (k : Int) := by
     have r1 := rng32 low
     have r2 := rng32 step
     have e3 := c_iadd (low) (step)
     have r3 := rng32 ((low + step))
     have k4 : (2 : Int32).toInt = 2 := by decide
     have e5 := c_imul ((2 : Int32)) (step)
     have r5 := rng32 (((2 : Int32) * step))
     rw [show (2 : Int32).toInt = 2 from by decide] at e5
     have r6 := rng32 lim
     have e7 := c_isub (lim) (low)
     have r7 := rng32 ((lim - low))
     have e8 := c_isub (lim) ((low + step))
     have r8 := rng32 ((lim - (low + step)))
     have d0 : step.toInt < ((lim - low)).toInt := Int32.lt_iff_toInt_lt.mp c0
     have d2 : ¬ (((lim - (low + step))).toInt < (((2 : Int32) * step)).toInt) := mt Int32.lt_iff_toInt_lt.mpr c2
     omega
    exact ih (low + step) (((2 : Int32) * step)) X13 e13 q19 q20 q21 q22 q23 c1
 ·refine o_cY 60 X0 hx hby o_d26_21 (flt c0).2.1 ?_
  refine o_q T (o_f2 m 62 t first lim frm time low step [(.int low)]) (fun _ k9 => XS.iload X0.here hx rfl (hb hby o_d26_60) rfl k9) ?_
  refine o_q T (o_f2 m 64 t first lim frm time low step [(.int step), (.int low)]) (fun _ k9 => XS.iload X0.here hx rfl (hb hby o_d26_62) rfl k9) ?_
  refine o_q T (o_f2 m 65 t first lim frm time low step [(.int (low + step))]) (fun _ k9 => XS.iadd X0.here hx rfl (hb hby o_d26_64) rfl k9) ?_
  refine o_q T (o_f2 m 66 t first lim frm time low step [(.int lim), (.int (low + step))]) (fun _ k9 => XS.iloadN X0.here hx rfl (hb hby o_d26_65) rfl k9) ?_
  obtain ⟨v24, T24, L24, hQ24, X24, st24⟩ := o_callS X0 hx hZ e0 hown (o_m hw 153 rfl) (o_m hw 134 rfl) (by decide) (o_m hw 135 rfl) (o_m hw 2 rfl) (o_k21_1 l Z a0 hw (low + step) lim h0 ) (g := (o_f2 m 66 t first lim frm time low step [(.int lim), (.int (low + step))])) rfl (by rw [hml]; rfl) rfl (argsL := [(.int (low + step)), (.int lim)]) (rest := []) rfl (lenOf o_pd4 rfl) rfl (hb hby o_d26_66) (o_b rfl) (o_b rfl) (o_b rfl) (o_b rfl)
  obtain ⟨rfl, rfl, e24⟩ := hQ24
  rw [List.append_nil] at X24
  by_cases c1 : lim < (low + step)
  ·rw [if_pos c1] at st24
   refine o_q T24 (o_f2 m 69 t first lim frm time low step [(.int lim)]) st24 ?_
   refine o_q T24 (o_f0 m 71 t first lim frm time low lim step []) (fun _ k9 => XS.istore X24.here hx rfl (hb hby o_d26_69) rfl (l' := (o_t0 t first lim frm time low lim step)) rfl k9) ?_
   refine o_go 136 X24 hx hby o_d26_71 ?_
   have q25 : first.toInt ≤ low.toInt := by
    have r1 := rng32 low
    have r2 := rng32 lim
    have r3 := rng32 step
    have e4 := c_isub (lim) (low)
    have r4 := rng32 ((lim - low))
    have e5 := c_iadd (low) (step)
    have r5 := rng32 ((low + step))
    have d0 : ¬ (step.toInt < ((lim - low)).toInt) := mt Int32.lt_iff_toInt_lt.mpr c0
    have d1 : lim.toInt < ((low + step)).toInt := Int32.lt_iff_toInt_lt.mp c1
    omega
   have q26 : low.toInt ≤ lim.toInt := by
    have r1 := rng32 low
    have r2 := rng32 lim
    have r3 := rng32 step
    have e4 := c_isub (lim) (low)
    have r4 := rng32 ((lim - low))
    have e5 := c_iadd (low) (step)
    have r5 := rng32 ((low + step))
    have d0 : ¬ (step.toInt < ((lim - low)).toInt) := mt Int32.lt_iff_toInt_lt.mpr c0
    have d1 : lim.toInt < ((low + step)).toInt := Int32.lt_iff_toInt_lt.mp c1
    omega
   have q27 : low.toInt < lim.toInt := by
    have r1 := rng32 low
    have r2 := rng32 lim
    have r3 := rng32 step
    have e4 := c_isub (lim) (low)
    have r4 := rng32 ((lim - low))
    have e5 := c_iadd (low) (step)
    have r5 := rng32 ((low + step))
    have d0 : ¬ (step.toInt < ((lim - low)).toInt) := mt Int32.lt_iff_toInt_lt.mpr c0
    have d1 : lim.toInt < ((low + step)).toInt := Int32.lt_iff_toInt_lt.mp c1
    omega
   have q28 : lim.toInt ≤ lim.toInt := by
    have r1 := rng32 low
    have r2 := rng32 lim
    have r3 := rng32 step
    have e4 := c_isub (lim) (low)
    have r4 := rng32 ((lim - low))
    have e5 := c_iadd (low) (step)
    have r5 := rng32 ((low + step))
    have d0 : ¬ (step.toInt < ((lim - low)).toInt) := mt Int32.lt_iff_toInt_lt.mpr c0
    have d1 : lim.toInt < ((low + step)).toInt := Int32.lt_iff_toInt_lt.mp c1
    omega
   have q29 : lim.toInt - low.toInt + 1 ≤ (100 : Nat) := by
    have r1 := rng32 low
    have r2 := rng32 lim
    have r3 := rng32 step
    have e4 := c_isub (lim) (low)
    have r4 := rng32 ((lim - low))
    have e5 := c_iadd (low) (step)
    have r5 := rng32 ((low + step))
    have d0 : ¬ (step.toInt < ((lim - low)).toInt) := mt Int32.lt_iff_toInt_lt.mpr c0
    have d1 : lim.toInt < ((low + step)).toInt := Int32.lt_iff_toInt_lt.mp c1
    omega
   exact o_place3 Z a0 hw t n first lim frm time xs h0 A0 b1 b2 b3 b4 b5 hx hby hml hZ hown hret hlk 100 low lim (step) X24 e24 q25 q26 q27 q28 q29 (fun _ => hl)
  ·rw [if_neg c1] at st24
   refine o_q T24 (o_f2 m 69 t first lim frm time low step [(.int (low + step))]) st24 ?_
   refine o_q T24 (o_f0 m 71 t first lim frm time low (low + step) step []) (fun _ k9 => XS.istore X24.here hx rfl (hb hby o_d26_69) rfl (l' := (o_t0 t first lim frm time low (low + step) step)) rfl k9) ?_
   refine o_go 136 X24 hx hby o_d26_71 ?_
   have q30 : first.toInt ≤ low.toInt := by
    have r1 := rng32 low
    have r2 := rng32 step
    have e3 := c_iadd (low) (step)
    have r3 := rng32 ((low + step))
    have r4 := rng32 lim
    have e5 := c_isub (lim) (low)
    have r5 := rng32 ((lim - low))
    have d0 : ¬ (step.toInt < ((lim - low)).toInt) := mt Int32.lt_iff_toInt_lt.mpr c0
    have d1 : ¬ (lim.toInt < ((low + step)).toInt) := mt Int32.lt_iff_toInt_lt.mpr c1
    omega
   have q31 : low.toInt ≤ ((low + step)).toInt := by
    have r1 := rng32 low
    have r2 := rng32 step
    have e3 := c_iadd (low) (step)
    have r3 := rng32 ((low + step))
    have r4 := rng32 lim
    have e5 := c_isub (lim) (low)
    have r5 := rng32 ((lim - low))
    have d0 : ¬ (step.toInt < ((lim - low)).toInt) := mt Int32.lt_iff_toInt_lt.mpr c0
    have d1 : ¬ (lim.toInt < ((low + step)).toInt) := mt Int32.lt_iff_toInt_lt.mpr c1
    omega
   have q32 : low.toInt < lim.toInt := by
    have r1 := rng32 low
    have r2 := rng32 step
    have e3 := c_iadd (low) (step)
    have r3 := rng32 ((low + step))
    have r4 := rng32 lim
    have e5 := c_isub (lim) (low)
    have r5 := rng32 ((lim - low))
    have d0 : ¬ (step.toInt < ((lim - low)).toInt) := mt Int32.lt_iff_toInt_lt.mpr c0
    have d1 : ¬ (lim.toInt < ((low + step)).toInt) := mt Int32.lt_iff_toInt_lt.mpr c1
    omega
   have q33 : ((low + step)).toInt ≤ lim.toInt := by
    have r1 := rng32 low
    have r2 := rng32 step
    have e3 := c_iadd (low) (step)
    have r3 := rng32 ((low + step))
    have r4 := rng32 lim
    have e5 := c_isub (lim) (low)
    have r5 := rng32 ((lim - low))
    have d0 : ¬ (step.toInt < ((lim - low)).toInt) := mt Int32.lt_iff_toInt_lt.mpr c0
    have d1 : ¬ (lim.toInt < ((low + step)).toInt) := mt Int32.lt_iff_toInt_lt.mpr c1
    omega
   have q34 : ((low + step)).toInt - low.toInt + 1 ≤ (100 : Nat) := by
    have r1 := rng32 low
    have r2 := rng32 step
    have e3 := c_iadd (low) (step)
    have r3 := rng32 ((low + step))
    have r4 := rng32 lim
    have e5 := c_isub (lim) (low)
    have r5 := rng32 ((lim - low))
    have d0 : ¬ (step.toInt < ((lim - low)).toInt) := mt Int32.lt_iff_toInt_lt.mpr c0
    have d1 : ¬ (lim.toInt < ((low + step)).toInt) := mt Int32.lt_iff_toInt_lt.mpr c1
    omega
   exact o_place3 Z a0 hw t n first lim frm time xs h0 A0 b1 b2 b3 b4 b5 hx hby hml hZ hown hret hlk 100 low ((low + step)) (step) X24 e24 q30 q31 q32 q33 q34 (fun _ => hl)
theorem o_d26_80 : decode o_y0 80 = .ok (.iload 8, 2) := by decide +kernel
theorem o_d26_82 : decode o_y0 82 = .ok (.iload 7, 2) := by decide +kernel
theorem o_d26_84 : decode o_y0 84 = .ok (.iload_n 1, 1) := by decide +kernel
theorem o_d26_85 : decode o_y0 85 = .ok (.isub, 1) := by decide +kernel
theorem o_d26_86 : decode o_y0 86 = .ok (.if_icmp .ge 39, 3) := by decide +kernel
theorem o_d26_89 : decode o_y0 89 = .ok (.aload_n 0, 1) := by decide +kernel
theorem o_d26_90 : decode o_y0 90 = .ok (.iload 7, 2) := by decide +kernel
theorem o_d26_92 : decode o_y0 92 = .ok (.iload 8, 2) := by decide +kernel
theorem o_d26_94 : decode o_y0 94 = .ok (.isub, 1) := by decide +kernel
theorem o_d26_95 : decode o_y0 95 = .ok (.laload, 1) := by decide +kernel
theorem o_d26_96 : decode o_y0 96 = .ok (.lload 4, 2) := by decide +kernel
theorem o_d26_98 : decode o_y0 98 = .ok (.lcmp, 1) := by decide +kernel
theorem o_d26_99 : decode o_y0 99 = .ok (.ifCond .le 26, 3) := by decide +kernel
theorem o_d26_102 : decode o_y0 102 = .ok (.iload 7, 2) := by decide +kernel
theorem o_d26_104 : decode o_y0 104 = .ok (.iload 8, 2) := by decide +kernel
theorem o_d26_106 : decode o_y0 106 = .ok (.isub, 1) := by decide +kernel
theorem o_d26_107 : decode o_y0 107 = .ok (.istore 7, 2) := by decide +kernel
theorem o_d26_109 : decode o_y0 109 = .ok (.iconst 2, 1) := by decide +kernel
theorem o_d26_110 : decode o_y0 110 = .ok (.iload 8, 2) := by decide +kernel
theorem o_d26_112 : decode o_y0 112 = .ok (.imul, 1) := by decide +kernel
theorem o_d26_113 : decode o_y0 113 = .ok (.iload 7, 2) := by decide +kernel
theorem o_d26_115 : decode o_y0 115 = .ok (.iload_n 1, 1) := by decide +kernel
theorem o_d26_116 : decode o_y0 116 = .ok (.isub, 1) := by decide +kernel
theorem o_d26_117 : decode o_y0 117 = .ok (.invokestatic 107, 3) := by decide +kernel
theorem o_d26_120 : decode o_y0 120 = .ok (.istore 8, 2) := by decide +kernel
theorem o_d26_122 : decode o_y0 122 = .ok (.goto (-42), 3) := by decide +kernel
theorem o_d26_125 : decode o_y0 125 = .ok (.iload_n 1, 1) := by decide +kernel
theorem o_d26_126 : decode o_y0 126 = .ok (.iload 7, 2) := by decide +kernel
theorem o_d26_128 : decode o_y0 128 = .ok (.iload 8, 2) := by decide +kernel
theorem o_d26_130 : decode o_y0 130 = .ok (.isub, 1) := by decide +kernel
theorem o_d26_131 : decode o_y0 131 = .ok (.invokestatic 92, 3) := by decide +kernel
theorem o_d24_0 : decode o_y2 0 = .ok (.iload_n 0, 1) := by decide +kernel
theorem o_d24_1 : decode o_y2 1 = .ok (.iload_n 1, 1) := by decide +kernel
theorem o_d24_2 : decode o_y2 2 = .ok (.if_icmp .lt 7, 3) := by decide +kernel
theorem o_d24_9 : decode o_y2 9 = .ok (.iload_n 1, 1) := by decide +kernel
theorem o_d24_10 : decode o_y2 10 = .ok (.ireturn, 1) := by decide +kernel
theorem o_d24_5 : decode o_y2 5 = .ok (.iload_n 0, 1) := by decide +kernel
theorem o_d24_6 : decode o_y2 6 = .ok (.goto 4, 3) := by decide +kernel
theorem o_pn24 : plainFor (⟨"java/lang/Math", "max", "(II)I"⟩ : MethodName) = true := Jvm.Free.JP.mathPlain rfl (by decide +kernel)
set_option maxRecDepth 65536 in
set_option maxHeartbeats 40000000 in
theorem o_k24_2 (l : Launch) (Z : State) (a0 : Array Value) (hw : ∀ d ∈ tables_1, d.before a0 Z = true) (p0 : Int32) (p1 : Int32) (h0 : Heap)  :
  o_C l (⟨"java/lang/Math", "max", "(II)I"⟩ : MethodName) o_y2 2 (some .int) (o_R 0 0 0 0) Z h0 #[(.int p0), (.int p1)] (o_P (some (if p0 < p1 then (.int p1) else (.int p0))) h0) := by
 refine o_body o_pn24 ?_
 intro p e s m below meth c s₁ hx hby hml hZ hown hnm hret hlk X0 e0
 refine o_cast (f' := (o_f1 m 0 p0 p1 [])) (by first | (simp [entryFrame, mkF, argsToLocals, Value.category, maxLocals]; done) | rfl) ?_
 refine o_q s₁ (o_f1 m 1 p0 p1 [(.int p0)]) (fun _ k9 => XS.iloadN X0.here hx rfl (hb hby o_d24_0) rfl k9) ?_
 refine o_q s₁ (o_f1 m 2 p0 p1 [(.int p1), (.int p0)]) (fun _ k9 => XS.iloadN X0.here hx rfl (hb hby o_d24_1) rfl k9) ?_
 by_cases c0 : p0 < p1
 ·refine o_cY 9 X0 hx hby o_d24_2 (tlt c0).1 ?_
  refine o_q s₁ (o_f1 m 10 p0 p1 [(.int p1)]) (fun _ k9 => XS.iloadN X0.here hx rfl (hb hby o_d24_9) rfl k9) ?_
  exact o_retI X0 hx hlk hret (hb hby o_d24_10) ⟨by simp only [if_pos c0], rfl, e0⟩ (by decide) (by decide)
 ·refine o_cN X0 hx hby o_d24_2 (flt c0).1 ?_
  refine o_q s₁ (o_f1 m 6 p0 p1 [(.int p0)]) (fun _ k9 => XS.iloadN X0.here hx rfl (hb hby o_d24_5) rfl k9) ?_
  refine o_go 10 X0 hx hby o_d24_6 ?_
  exact o_retI X0 hx hlk hret (hb hby o_d24_10) ⟨by simp only [if_neg c0], rfl, e0⟩ (by decide) (by decide)
theorem o_d26_134 : decode o_y0 134 = .ok (.istore 6, 2) := by decide +kernel
set_option maxRecDepth 65536 in
set_option maxHeartbeats 40000000 in
theorem o_place2 {p : Program} {l : Launch} {e : Env} {s : State} {m : MethodId} {below : List Frame} {meth : Method} {c : Code} (Z : State) (a0 : Array Value) (hw : ∀ d ∈ tables_1, d.before a0 Z = true) (t : Addr) (n first lim frm : Int32) (time : Int64) (xs : Nat → Int64) (h0 : Heap) (A0 : o_LA Z h0 t n xs) (b1 : 0 ≤ first.toInt) (b2 : first.toInt ≤ frm.toInt) (b3 : frm.toInt < lim.toInt) (b4 : lim.toInt ≤ n.toInt) (b5 : n.toInt ≤ 64)
  (hx : p.tables.exec = Jvm.exec) (hby : c.code = o_y0) (hml : c.maxLocals = 9) (hZ : Z.Warmed39 s.vm) (hown : s.vm.findClass o_n1 = some m.cls) (hret : meth.sig.returnType = (some .int)) (hlk : meth.locks = false) :
  ∀ (k : Nat) (high step : Int32) {T : State} (X0 : Stand p l e (o_R 1 0 0 13) s m #[(.ref t), (.int first), (.int lim), (.int frm), (.long time)] below meth c T [] 0 0) (e0 : T.heap = h0), first.toInt ≤ high.toInt → high.toInt < lim.toInt → 1 ≤ step.toInt → step.toInt ≤ 100 → high.toInt - first.toInt + 1 ≤ (k : Int) → o_G p e below s (fun v h L => ∃ r : Int32, v = some (.int r) ∧ L = [] ∧ h = h0 ∧ first.toInt ≤ r.toInt ∧ r.toInt < lim.toInt ∧ (¬ time < xs first.toNatClampNeg → ¬ time < xs r.toNatClampNeg)) 0 0 T (o_f3 m 80 t first lim frm time high step []) := by
 intro k
 induction k with
 | zero => intro high step  T X0 e0 g1 g2 g3 g4 g5; exfalso; omega
 | succ k ih =>
 intro high step  T X0 e0 g1 g2 g3 g4 g5
 refine o_q T (o_f3 m 82 t first lim frm time high step [(.int step)]) (fun _ k9 => XS.iload X0.here hx rfl (hb hby o_d26_80) rfl k9) ?_
 refine o_q T (o_f3 m 84 t first lim frm time high step [(.int high), (.int step)]) (fun _ k9 => XS.iload X0.here hx rfl (hb hby o_d26_82) rfl k9) ?_
 refine o_q T (o_f3 m 85 t first lim frm time high step [(.int first), (.int high), (.int step)]) (fun _ k9 => XS.iloadN X0.here hx rfl (hb hby o_d26_84) rfl k9) ?_
 refine o_q T (o_f3 m 86 t first lim frm time high step [(.int (high - first)), (.int step)]) (fun _ k9 => XS.isub X0.here hx rfl (hb hby o_d26_85) rfl k9) ?_
 by_cases c0 : step < (high - first)
 ·refine o_cN X0 hx hby o_d26_86 (tlt c0).2.1 ?_
  refine o_q T (o_f3 m 90 t first lim frm time high step [(.ref t)]) (fun _ k9 => XS.aloadN X0.here hx rfl (hb hby o_d26_89) rfl rfl k9) ?_
  refine o_q T (o_f3 m 92 t first lim frm time high step [(.int high), (.ref t)]) (fun _ k9 => XS.iload X0.here hx rfl (hb hby o_d26_90) rfl k9) ?_
  refine o_q T (o_f3 m 94 t first lim frm time high step [(.int step), (.int high), (.ref t)]) (fun _ k9 => XS.iload X0.here hx rfl (hb hby o_d26_92) rfl k9) ?_
  refine o_q T (o_f3 m 95 t first lim frm time high step [(.int (high - step)), (.ref t)]) (fun _ k9 => XS.isub X0.here hx rfl (hb hby o_d26_94) rfl k9) ?_
  have hin1 : ¬ ((high - step) < (0 : Int32)) ∧ (high - step) < n := by
   have r1 := rng32 high
   have r2 := rng32 step
   have e3 := c_isub (high) (step)
   have r3 := rng32 ((high - step))
   have r4 := rng32 n
   have k5 : (0 : Int32).toInt = 0 := by decide
   have r6 := rng32 first
   have e7 := c_isub (high) (first)
   have r7 := rng32 ((high - first))
   have d0 : step.toInt < ((high - first)).toInt := Int32.lt_iff_toInt_lt.mp c0
   rw [Int32.lt_iff_toInt_lt, Int32.lt_iff_toInt_lt]
   omega
  refine o_dJ X0 hx hZ e0 hby A0 hin1 o_d26_95 ?_
  refine o_q T (o_f3 m 98 t first lim frm time high step [(.long time), (.long (xs ((high - step)).toNatClampNeg))]) (fun _ k9 => XS.lload X0.here hx rfl (hb hby o_d26_96) rfl k9) ?_
  refine o_q T (o_f3 m 99 t first lim frm time high step [(.int (lcmpW (xs ((high - step)).toNatClampNeg) time))]) (fun _ k9 => XS.lcmp X0.here hx rfl (hb hby o_d26_98) rfl k9) ?_
  by_cases c1 : time < (xs ((high - step)).toNatClampNeg)
  ·refine o_fN X0 hx hby o_d26_99 ((if0 _ _).trans (tlt ((lw_gt _ _).mpr c1)).2.2.2) ?_
   refine o_q T (o_f3 m 104 t first lim frm time high step [(.int high)]) (fun _ k9 => XS.iload X0.here hx rfl (hb hby o_d26_102) rfl k9) ?_
   refine o_q T (o_f3 m 106 t first lim frm time high step [(.int step), (.int high)]) (fun _ k9 => XS.iload X0.here hx rfl (hb hby o_d26_104) rfl k9) ?_
   refine o_q T (o_f3 m 107 t first lim frm time high step [(.int (high - step))]) (fun _ k9 => XS.isub X0.here hx rfl (hb hby o_d26_106) rfl k9) ?_
   refine o_q T (o_f3 m 109 t first lim frm time (high - step) step []) (fun _ k9 => XS.istore X0.here hx rfl (hb hby o_d26_107) rfl (l' := (o_t3 t first lim frm time (high - step) step)) rfl k9) ?_
   refine o_iC (2 : Int32) X0 hx hby o_d26_109 rfl ?_
   refine o_q T (o_f3 m 112 t first lim frm time (high - step) step [(.int step), (.int (2 : Int32))]) (fun _ k9 => XS.iload X0.here hx rfl (hb hby o_d26_110) rfl k9) ?_
   refine o_q T (o_f3 m 113 t first lim frm time (high - step) step [(.int ((2 : Int32) * step))]) (fun _ k9 => XS.imul X0.here hx rfl (hb hby o_d26_112) rfl k9) ?_
   refine o_q T (o_f3 m 115 t first lim frm time (high - step) step [(.int (high - step)), (.int ((2 : Int32) * step))]) (fun _ k9 => XS.iload X0.here hx rfl (hb hby o_d26_113) rfl k9) ?_
   refine o_q T (o_f3 m 116 t first lim frm time (high - step) step [(.int first), (.int (high - step)), (.int ((2 : Int32) * step))]) (fun _ k9 => XS.iloadN X0.here hx rfl (hb hby o_d26_115) rfl k9) ?_
   refine o_q T (o_f3 m 117 t first lim frm time (high - step) step [(.int ((high - step) - first)), (.int ((2 : Int32) * step))]) (fun _ k9 => XS.isub X0.here hx rfl (hb hby o_d26_116) rfl k9) ?_
   obtain ⟨v2, T2, L2, hQ2, X2, st2⟩ := o_callS X0 hx hZ e0 hown (o_m hw 153 rfl) (o_m hw 134 rfl) (by decide) (o_m hw 135 rfl) (o_m hw 2 rfl) (o_k21_1 l Z a0 hw ((2 : Int32) * step) ((high - step) - first) h0 ) (g := (o_f3 m 117 t first lim frm time (high - step) step [(.int ((high - step) - first)), (.int ((2 : Int32) * step))])) rfl (by rw [hml]; rfl) rfl (argsL := [(.int ((2 : Int32) * step)), (.int ((high - step) - first))]) (rest := []) rfl (lenOf o_pd4 rfl) rfl (hb hby o_d26_117) (o_b rfl) (o_b rfl) (o_b rfl) (o_b rfl)
   obtain ⟨rfl, rfl, e2⟩ := hQ2
   rw [List.append_nil] at X2
   by_cases c2 : ((high - step) - first) < ((2 : Int32) * step)
   ·rw [if_pos c2] at st2
    refine o_q T2 (o_f3 m 120 t first lim frm time (high - step) step [(.int ((high - step) - first))]) st2 ?_
    refine o_q T2 (o_f3 m 122 t first lim frm time (high - step) ((high - step) - first) []) (fun _ k9 => XS.istore X2.here hx rfl (hb hby o_d26_120) rfl (l' := (o_t3 t first lim frm time (high - step) ((high - step) - first))) rfl k9) ?_
    refine o_go 80 X2 hx hby o_d26_122 ?_
    have q3 : first.toInt ≤ ((high - step)).toInt := by
     have r1 := rng32 high
     have r2 := rng32 step
     have e3 := c_isub (high) (step)
     have r3 := rng32 ((high - step))
     have r4 := rng32 first
     have e5 := c_isub ((high - step)) (first)
     have r5 := rng32 (((high - step) - first))
     have e6 := c_isub (high) (first)
     have r6 := rng32 ((high - first))
     have k7 : (2 : Int32).toInt = 2 := by decide
     have e8 := c_imul ((2 : Int32)) (step)
     have r8 := rng32 (((2 : Int32) * step))
     rw [show (2 : Int32).toInt = 2 from by decide] at e8
     have d0 : step.toInt < ((high - first)).toInt := Int32.lt_iff_toInt_lt.mp c0
     have d2 : (((high - step) - first)).toInt < (((2 : Int32) * step)).toInt := Int32.lt_iff_toInt_lt.mp c2
     omega
    have q4 : ((high - step)).toInt < lim.toInt := by
     have r1 := rng32 high
     have r2 := rng32 step
     have e3 := c_isub (high) (step)
     have r3 := rng32 ((high - step))
     have r4 := rng32 first
     have e5 := c_isub ((high - step)) (first)
     have r5 := rng32 (((high - step) - first))
     have e6 := c_isub (high) (first)
     have r6 := rng32 ((high - first))
     have k7 : (2 : Int32).toInt = 2 := by decide
     have e8 := c_imul ((2 : Int32)) (step)
     have r8 := rng32 (((2 : Int32) * step))
     rw [show (2 : Int32).toInt = 2 from by decide] at e8
     have d0 : step.toInt < ((high - first)).toInt := Int32.lt_iff_toInt_lt.mp c0
     have d2 : (((high - step) - first)).toInt < (((2 : Int32) * step)).toInt := Int32.lt_iff_toInt_lt.mp c2
     omega
    have q5 : 1 ≤ (((high - step) - first)).toInt := by
     have r1 := rng32 high
     have r2 := rng32 step
     have e3 := c_isub (high) (step)
     have r3 := rng32 ((high - step))
     have r4 := rng32 first
     have e5 := c_isub ((high - step)) (first)
     have r5 := rng32 (((high - step) - first))
     have e6 := c_isub (high) (first)
     have r6 := rng32 ((high - first))
     have k7 : (2 : Int32).toInt = 2 := by decide
     have e8 := c_imul ((2 : Int32)) (step)
     have r8 := rng32 (((2 : Int32) * step))
     rw [show (2 : Int32).toInt = 2 from by decide] at e8
     have d0 : step.toInt < ((high - first)).toInt := Int32.lt_iff_toInt_lt.mp c0
     have d2 : (((high - step) - first)).toInt < (((2 : Int32) * step)).toInt := Int32.lt_iff_toInt_lt.mp c2
     omega
    have q6 : (((high - step) - first)).toInt ≤ 100 := by
     have r1 := rng32 high
     have r2 := rng32 step
     have e3 := c_isub (high) (step)
     have r3 := rng32 ((high - step))
     have r4 := rng32 first
     have e5 := c_isub ((high - step)) (first)
     have r5 := rng32 (((high - step) - first))
     have e6 := c_isub (high) (first)
     have r6 := rng32 ((high - first))
     have k7 : (2 : Int32).toInt = 2 := by decide
     have e8 := c_imul ((2 : Int32)) (step)
     have r8 := rng32 (((2 : Int32) * step))
     rw [show (2 : Int32).toInt = 2 from by decide] at e8
     have d0 : step.toInt < ((high - first)).toInt := Int32.lt_iff_toInt_lt.mp c0
     have d2 : (((high - step) - first)).toInt < (((2 : Int32) * step)).toInt := Int32.lt_iff_toInt_lt.mp c2
     omega
    have q7 : ((high - step)).toInt - first.toInt + 1 ≤ (k : Int) := by
     have r1 := rng32 high
     have r2 := rng32 step
     have e3 := c_isub (high) (step)
     have r3 := rng32 ((high - step))
     have r4 := rng32 first
     have e5 := c_isub ((high - step)) (first)
     have r5 := rng32 (((high - step) - first))
     have e6 := c_isub (high) (first)
     have r6 := rng32 ((high - first))
     have k7 : (2 : Int32).toInt = 2 := by decide
     have e8 := c_imul ((2 : Int32)) (step)
     have r8 := rng32 (((2 : Int32) * step))
     rw [show (2 : Int32).toInt = 2 from by decide] at e8
     have d0 : step.toInt < ((high - first)).toInt := Int32.lt_iff_toInt_lt.mp c0
     have d2 : (((high - step) - first)).toInt < (((2 : Int32) * step)).toInt := Int32.lt_iff_toInt_lt.mp c2
     omega
    exact ih (high - step) (((high - step) - first)) X2 e2 q3 q4 q5 q6 q7
   ·rw [if_neg c2] at st2
    refine o_q T2 (o_f3 m 120 t first lim frm time (high - step) step [(.int ((2 : Int32) * step))]) st2 ?_
    refine o_q T2 (o_f3 m 122 t first lim frm time (high - step) ((2 : Int32) * step) []) (fun _ k9 => XS.istore X2.here hx rfl (hb hby o_d26_120) rfl (l' := (o_t3 t first lim frm time (high - step) ((2 : Int32) * step))) rfl k9) ?_
    refine o_go 80 X2 hx hby o_d26_122 ?_
    have q8 : first.toInt ≤ ((high - step)).toInt := by
     have r1 := rng32 high
     have r2 := rng32 step
     have e3 := c_isub (high) (step)
     have r3 := rng32 ((high - step))
     have k4 : (2 : Int32).toInt = 2 := by decide
     have e5 := c_imul ((2 : Int32)) (step)
     have r5 := rng32 (((2 : Int32) * step))
     rw [show (2 : Int32).toInt = 2 from by decide] at e5
     have r6 := rng32 first
     have e7 := c_isub (high) (first)
     have r7 := rng32 ((high - first))
     have e8 := c_isub ((high - step)) (first)
     have r8 := rng32 (((high - step) - first))
     have d0 : step.toInt < ((high - first)).toInt := Int32.lt_iff_toInt_lt.mp c0
     have d2 : ¬ ((((high - step) - first)).toInt < (((2 : Int32) * step)).toInt) := mt Int32.lt_iff_toInt_lt.mpr c2
     omega
    have q9 : ((high - step)).toInt < lim.toInt := by
     have r1 := rng32 high
     have r2 := rng32 step
     have e3 := c_isub (high) (step)
     have r3 := rng32 ((high - step))
     have k4 : (2 : Int32).toInt = 2 := by decide
     have e5 := c_imul ((2 : Int32)) (step)
     have r5 := rng32 (((2 : Int32) * step))
     rw [show (2 : Int32).toInt = 2 from by decide] at e5
     have r6 := rng32 first
     have e7 := c_isub (high) (first)
     have r7 := rng32 ((high - first))
     have e8 := c_isub ((high - step)) (first)
     have r8 := rng32 (((high - step) - first))
     have d0 : step.toInt < ((high - first)).toInt := Int32.lt_iff_toInt_lt.mp c0
     have d2 : ¬ ((((high - step) - first)).toInt < (((2 : Int32) * step)).toInt) := mt Int32.lt_iff_toInt_lt.mpr c2
     omega
    have q10 : 1 ≤ (((2 : Int32) * step)).toInt := by
     have r1 := rng32 high
     have r2 := rng32 step
     have e3 := c_isub (high) (step)
     have r3 := rng32 ((high - step))
     have k4 : (2 : Int32).toInt = 2 := by decide
     have e5 := c_imul ((2 : Int32)) (step)
     have r5 := rng32 (((2 : Int32) * step))
     rw [show (2 : Int32).toInt = 2 from by decide] at e5
     have r6 := rng32 first
     have e7 := c_isub (high) (first)
     have r7 := rng32 ((high - first))
     have e8 := c_isub ((high - step)) (first)
     have r8 := rng32 (((high - step) - first))
     have d0 : step.toInt < ((high - first)).toInt := Int32.lt_iff_toInt_lt.mp c0
     have d2 : ¬ ((((high - step) - first)).toInt < (((2 : Int32) * step)).toInt) := mt Int32.lt_iff_toInt_lt.mpr c2
     omega
    have q11 : (((2 : Int32) * step)).toInt ≤ 100 := by
     have r1 := rng32 high
     have r2 := rng32 step
     have e3 := c_isub (high) (step)
     have r3 := rng32 ((high - step))
     have k4 : (2 : Int32).toInt = 2 := by decide
     have e5 := c_imul ((2 : Int32)) (step)
     have r5 := rng32 (((2 : Int32) * step))
     rw [show (2 : Int32).toInt = 2 from by decide] at e5
     have r6 := rng32 first
     have e7 := c_isub (high) (first)
     have r7 := rng32 ((high - first))
     have e8 := c_isub ((high - step)) (first)
     have r8 := rng32 (((high - step) - first))
     have d0 : step.toInt < ((high - first)).toInt := Int32.lt_iff_toInt_lt.mp c0
     have d2 : ¬ ((((high - step) - first)).toInt < (((2 : Int32) * step)).toInt) := mt Int32.lt_iff_toInt_lt.mpr c2
     omega
    have q12 : ((high - step)).toInt - first.toInt + 1 ≤ (k : Int) := by
     have r1 := rng32 high
     have r2 := rng32 step
     have e3 := c_isub (high) (step)
     have r3 := rng32 ((high - step))
     have k4 : (2 : Int32).toInt = 2 := by decide
     have e5 := c_imul ((2 : Int32)) (step)
     have r5 := rng32 (((2 : Int32) * step))
     rw [show (2 : Int32).toInt = 2 from by decide] at e5
     have r6 := rng32 first
     have e7 := c_isub (high) (first)
     have r7 := rng32 ((high - first))
     have e8 := c_isub ((high - step)) (first)
     have r8 := rng32 (((high - step) - first))
     have d0 : step.toInt < ((high - first)).toInt := Int32.lt_iff_toInt_lt.mp c0
     have d2 : ¬ ((((high - step) - first)).toInt < (((2 : Int32) * step)).toInt) := mt Int32.lt_iff_toInt_lt.mpr c2
     omega
    exact ih (high - step) (((2 : Int32) * step)) X2 e2 q8 q9 q10 q11 q12
  ·refine o_fY 125 X0 hx hby o_d26_99 ((if0 _ _).trans (flt (mt (lw_gt _ _).mp c1)).2.2.2) ?_
   refine o_q T (o_f3 m 126 t first lim frm time high step [(.int first)]) (fun _ k9 => XS.iloadN X0.here hx rfl (hb hby o_d26_125) rfl k9) ?_
   refine o_q T (o_f3 m 128 t first lim frm time high step [(.int high), (.int first)]) (fun _ k9 => XS.iload X0.here hx rfl (hb hby o_d26_126) rfl k9) ?_
   refine o_q T (o_f3 m 130 t first lim frm time high step [(.int step), (.int high), (.int first)]) (fun _ k9 => XS.iload X0.here hx rfl (hb hby o_d26_128) rfl k9) ?_
   refine o_q T (o_f3 m 131 t first lim frm time high step [(.int (high - step)), (.int first)]) (fun _ k9 => XS.isub X0.here hx rfl (hb hby o_d26_130) rfl k9) ?_
   obtain ⟨v13, T13, L13, hQ13, X13, st13⟩ := o_callS X0 hx hZ e0 hown (o_m hw 154 rfl) (o_m hw 143 rfl) (by decide) (o_m hw 144 rfl) (o_m hw 2 rfl) (o_k24_2 l Z a0 hw first (high - step) h0 ) (g := (o_f3 m 131 t first lim frm time high step [(.int (high - step)), (.int first)])) rfl (by rw [hml]; rfl) rfl (argsL := [(.int first), (.int (high - step))]) (rest := []) rfl (lenOf o_pd4 rfl) rfl (hb hby o_d26_131) (o_b rfl) (o_b rfl) (o_b rfl) (o_b rfl)
   obtain ⟨rfl, rfl, e13⟩ := hQ13
   rw [List.append_nil] at X13
   by_cases c2 : first < (high - step)
   ·rw [if_pos c2] at st13
    refine o_q T13 (o_f3 m 134 t first lim frm time high step [(.int (high - step))]) st13 ?_
    refine o_q T13 (o_f0 m 136 t first lim frm time (high - step) high step []) (fun _ k9 => XS.istore X13.here hx rfl (hb hby o_d26_134) rfl (l' := (o_t0 t first lim frm time (high - step) high step)) rfl k9) ?_
    have q14 : first.toInt ≤ ((high - step)).toInt := by
     have r1 := rng32 high
     have r2 := rng32 step
     have e3 := c_isub (high) (step)
     have r3 := rng32 ((high - step))
     have r4 := rng32 first
     have e5 := c_isub (high) (first)
     have r5 := rng32 ((high - first))
     have d0 : step.toInt < ((high - first)).toInt := Int32.lt_iff_toInt_lt.mp c0
     have d2 : first.toInt < ((high - step)).toInt := Int32.lt_iff_toInt_lt.mp c2
     omega
    have q15 : ((high - step)).toInt ≤ high.toInt := by
     have r1 := rng32 high
     have r2 := rng32 step
     have e3 := c_isub (high) (step)
     have r3 := rng32 ((high - step))
     have r4 := rng32 first
     have e5 := c_isub (high) (first)
     have r5 := rng32 ((high - first))
     have d0 : step.toInt < ((high - first)).toInt := Int32.lt_iff_toInt_lt.mp c0
     have d2 : first.toInt < ((high - step)).toInt := Int32.lt_iff_toInt_lt.mp c2
     omega
    have q16 : ((high - step)).toInt < lim.toInt := by
     have r1 := rng32 high
     have r2 := rng32 step
     have e3 := c_isub (high) (step)
     have r3 := rng32 ((high - step))
     have r4 := rng32 first
     have e5 := c_isub (high) (first)
     have r5 := rng32 ((high - first))
     have d0 : step.toInt < ((high - first)).toInt := Int32.lt_iff_toInt_lt.mp c0
     have d2 : first.toInt < ((high - step)).toInt := Int32.lt_iff_toInt_lt.mp c2
     omega
    have q17 : high.toInt ≤ lim.toInt := by
     have r1 := rng32 high
     have r2 := rng32 step
     have e3 := c_isub (high) (step)
     have r3 := rng32 ((high - step))
     have r4 := rng32 first
     have e5 := c_isub (high) (first)
     have r5 := rng32 ((high - first))
     have d0 : step.toInt < ((high - first)).toInt := Int32.lt_iff_toInt_lt.mp c0
     have d2 : first.toInt < ((high - step)).toInt := Int32.lt_iff_toInt_lt.mp c2
     omega
    have q18 : high.toInt - ((high - step)).toInt + 1 ≤ (100 : Nat) := by
     have r1 := rng32 high
     have r2 := rng32 step
     have e3 := c_isub (high) (step)
     have r3 := rng32 ((high - step))
     have r4 := rng32 first
     have e5 := c_isub (high) (first)
     have r5 := rng32 ((high - first))
     have d0 : step.toInt < ((high - first)).toInt := Int32.lt_iff_toInt_lt.mp c0
     have d2 : first.toInt < ((high - step)).toInt := Int32.lt_iff_toInt_lt.mp c2
     omega
    exact o_place3 Z a0 hw t n first lim frm time xs h0 A0 b1 b2 b3 b4 b5 hx hby hml hZ hown hret hlk 100 ((high - step)) high (step) X13 e13 q14 q15 q16 q17 q18 (fun _ => c1)
   ·rw [if_neg c2] at st13
    refine o_q T13 (o_f3 m 134 t first lim frm time high step [(.int first)]) st13 ?_
    refine o_q T13 (o_f0 m 136 t first lim frm time first high step []) (fun _ k9 => XS.istore X13.here hx rfl (hb hby o_d26_134) rfl (l' := (o_t0 t first lim frm time first high step)) rfl k9) ?_
    have q19 : first.toInt ≤ first.toInt := by
     have r1 := rng32 first
     have r2 := rng32 high
     have r3 := rng32 step
     have e4 := c_isub (high) (first)
     have r4 := rng32 ((high - first))
     have e5 := c_isub (high) (step)
     have r5 := rng32 ((high - step))
     have d0 : step.toInt < ((high - first)).toInt := Int32.lt_iff_toInt_lt.mp c0
     have d2 : ¬ (first.toInt < ((high - step)).toInt) := mt Int32.lt_iff_toInt_lt.mpr c2
     omega
    have q20 : first.toInt ≤ high.toInt := by
     have r1 := rng32 first
     have r2 := rng32 high
     have r3 := rng32 step
     have e4 := c_isub (high) (first)
     have r4 := rng32 ((high - first))
     have e5 := c_isub (high) (step)
     have r5 := rng32 ((high - step))
     have d0 : step.toInt < ((high - first)).toInt := Int32.lt_iff_toInt_lt.mp c0
     have d2 : ¬ (first.toInt < ((high - step)).toInt) := mt Int32.lt_iff_toInt_lt.mpr c2
     omega
    have q21 : first.toInt < lim.toInt := by
     have r1 := rng32 first
     have r2 := rng32 high
     have r3 := rng32 step
     have e4 := c_isub (high) (first)
     have r4 := rng32 ((high - first))
     have e5 := c_isub (high) (step)
     have r5 := rng32 ((high - step))
     have d0 : step.toInt < ((high - first)).toInt := Int32.lt_iff_toInt_lt.mp c0
     have d2 : ¬ (first.toInt < ((high - step)).toInt) := mt Int32.lt_iff_toInt_lt.mpr c2
     omega
    have q22 : high.toInt ≤ lim.toInt := by
     have r1 := rng32 first
     have r2 := rng32 high
     have r3 := rng32 step
     have e4 := c_isub (high) (first)
     have r4 := rng32 ((high - first))
     have e5 := c_isub (high) (step)
     have r5 := rng32 ((high - step))
     have d0 : step.toInt < ((high - first)).toInt := Int32.lt_iff_toInt_lt.mp c0
     have d2 : ¬ (first.toInt < ((high - step)).toInt) := mt Int32.lt_iff_toInt_lt.mpr c2
     omega
    have q23 : high.toInt - first.toInt + 1 ≤ (100 : Nat) := by
     have r1 := rng32 first
     have r2 := rng32 high
     have r3 := rng32 step
     have e4 := c_isub (high) (first)
     have r4 := rng32 ((high - first))
     have e5 := c_isub (high) (step)
     have r5 := rng32 ((high - step))
     have d0 : step.toInt < ((high - first)).toInt := Int32.lt_iff_toInt_lt.mp c0
     have d2 : ¬ (first.toInt < ((high - step)).toInt) := mt Int32.lt_iff_toInt_lt.mpr c2
     omega
    exact o_place3 Z a0 hw t n first lim frm time xs h0 A0 b1 b2 b3 b4 b5 hx hby hml hZ hown hret hlk 100 first high (step) X13 e13 q19 q20 q21 q22 q23 (fun q => q)
 ·refine o_cY 125 X0 hx hby o_d26_86 (flt c0).2.1 ?_
  refine o_q T (o_f3 m 126 t first lim frm time high step [(.int first)]) (fun _ k9 => XS.iloadN X0.here hx rfl (hb hby o_d26_125) rfl k9) ?_
  refine o_q T (o_f3 m 128 t first lim frm time high step [(.int high), (.int first)]) (fun _ k9 => XS.iload X0.here hx rfl (hb hby o_d26_126) rfl k9) ?_
  refine o_q T (o_f3 m 130 t first lim frm time high step [(.int step), (.int high), (.int first)]) (fun _ k9 => XS.iload X0.here hx rfl (hb hby o_d26_128) rfl k9) ?_
  refine o_q T (o_f3 m 131 t first lim frm time high step [(.int (high - step)), (.int first)]) (fun _ k9 => XS.isub X0.here hx rfl (hb hby o_d26_130) rfl k9) ?_
  obtain ⟨v24, T24, L24, hQ24, X24, st24⟩ := o_callS X0 hx hZ e0 hown (o_m hw 154 rfl) (o_m hw 143 rfl) (by decide) (o_m hw 144 rfl) (o_m hw 2 rfl) (o_k24_2 l Z a0 hw first (high - step) h0 ) (g := (o_f3 m 131 t first lim frm time high step [(.int (high - step)), (.int first)])) rfl (by rw [hml]; rfl) rfl (argsL := [(.int first), (.int (high - step))]) (rest := []) rfl (lenOf o_pd4 rfl) rfl (hb hby o_d26_131) (o_b rfl) (o_b rfl) (o_b rfl) (o_b rfl)
  obtain ⟨rfl, rfl, e24⟩ := hQ24
  rw [List.append_nil] at X24
  by_cases c1 : first < (high - step)
  ·rw [if_pos c1] at st24
   refine o_q T24 (o_f3 m 134 t first lim frm time high step [(.int (high - step))]) st24 ?_
   refine o_q T24 (o_f0 m 136 t first lim frm time (high - step) high step []) (fun _ k9 => XS.istore X24.here hx rfl (hb hby o_d26_134) rfl (l' := (o_t0 t first lim frm time (high - step) high step)) rfl k9) ?_
   have q25 : first.toInt ≤ ((high - step)).toInt := by
    have r1 := rng32 high
    have r2 := rng32 step
    have e3 := c_isub (high) (step)
    have r3 := rng32 ((high - step))
    have r4 := rng32 first
    have e5 := c_isub (high) (first)
    have r5 := rng32 ((high - first))
    have d0 : ¬ (step.toInt < ((high - first)).toInt) := mt Int32.lt_iff_toInt_lt.mpr c0
    have d1 : first.toInt < ((high - step)).toInt := Int32.lt_iff_toInt_lt.mp c1
    omega
   have q26 : ((high - step)).toInt ≤ high.toInt := by
    have r1 := rng32 high
    have r2 := rng32 step
    have e3 := c_isub (high) (step)
    have r3 := rng32 ((high - step))
    have r4 := rng32 first
    have e5 := c_isub (high) (first)
    have r5 := rng32 ((high - first))
    have d0 : ¬ (step.toInt < ((high - first)).toInt) := mt Int32.lt_iff_toInt_lt.mpr c0
    have d1 : first.toInt < ((high - step)).toInt := Int32.lt_iff_toInt_lt.mp c1
    omega
   have q27 : ((high - step)).toInt < lim.toInt := by
    have r1 := rng32 high
    have r2 := rng32 step
    have e3 := c_isub (high) (step)
    have r3 := rng32 ((high - step))
    have r4 := rng32 first
    have e5 := c_isub (high) (first)
    have r5 := rng32 ((high - first))
    have d0 : ¬ (step.toInt < ((high - first)).toInt) := mt Int32.lt_iff_toInt_lt.mpr c0
    have d1 : first.toInt < ((high - step)).toInt := Int32.lt_iff_toInt_lt.mp c1
    omega
   have q28 : high.toInt ≤ lim.toInt := by
    have r1 := rng32 high
    have r2 := rng32 step
    have e3 := c_isub (high) (step)
    have r3 := rng32 ((high - step))
    have r4 := rng32 first
    have e5 := c_isub (high) (first)
    have r5 := rng32 ((high - first))
    have d0 : ¬ (step.toInt < ((high - first)).toInt) := mt Int32.lt_iff_toInt_lt.mpr c0
    have d1 : first.toInt < ((high - step)).toInt := Int32.lt_iff_toInt_lt.mp c1
    omega
   have q29 : high.toInt - ((high - step)).toInt + 1 ≤ (100 : Nat) := by
    have r1 := rng32 high
    have r2 := rng32 step
    have e3 := c_isub (high) (step)
    have r3 := rng32 ((high - step))
    have r4 := rng32 first
    have e5 := c_isub (high) (first)
    have r5 := rng32 ((high - first))
    have d0 : ¬ (step.toInt < ((high - first)).toInt) := mt Int32.lt_iff_toInt_lt.mpr c0
    have d1 : first.toInt < ((high - step)).toInt := Int32.lt_iff_toInt_lt.mp c1
    omega
   have q30 : ((high - step)).toInt = first.toInt := by
    have r1 := rng32 high
    have r2 := rng32 step
    have e3 := c_isub (high) (step)
    have r3 := rng32 ((high - step))
    have r4 := rng32 first
    have e5 := c_isub (high) (first)
    have r5 := rng32 ((high - first))
    have d0 : ¬ (step.toInt < ((high - first)).toInt) := mt Int32.lt_iff_toInt_lt.mpr c0
    have d1 : first.toInt < ((high - step)).toInt := Int32.lt_iff_toInt_lt.mp c1
    omega
   exact o_place3 Z a0 hw t n first lim frm time xs h0 A0 b1 b2 b3 b4 b5 hx hby hml hZ hown hret hlk 100 ((high - step)) high (step) X24 e24 q25 q26 q27 q28 q29 (by rw [Int32.toInt_inj.mp q30]; exact id)
  ·rw [if_neg c1] at st24
   refine o_q T24 (o_f3 m 134 t first lim frm time high step [(.int first)]) st24 ?_
   refine o_q T24 (o_f0 m 136 t first lim frm time first high step []) (fun _ k9 => XS.istore X24.here hx rfl (hb hby o_d26_134) rfl (l' := (o_t0 t first lim frm time first high step)) rfl k9) ?_
   have q31 : first.toInt ≤ first.toInt := by
    have r1 := rng32 first
    have r2 := rng32 high
    have r3 := rng32 step
    have e4 := c_isub (high) (first)
    have r4 := rng32 ((high - first))
    have e5 := c_isub (high) (step)
    have r5 := rng32 ((high - step))
    have d0 : ¬ (step.toInt < ((high - first)).toInt) := mt Int32.lt_iff_toInt_lt.mpr c0
    have d1 : ¬ (first.toInt < ((high - step)).toInt) := mt Int32.lt_iff_toInt_lt.mpr c1
    omega
   have q32 : first.toInt ≤ high.toInt := by
    have r1 := rng32 first
    have r2 := rng32 high
    have r3 := rng32 step
    have e4 := c_isub (high) (first)
    have r4 := rng32 ((high - first))
    have e5 := c_isub (high) (step)
    have r5 := rng32 ((high - step))
    have d0 : ¬ (step.toInt < ((high - first)).toInt) := mt Int32.lt_iff_toInt_lt.mpr c0
    have d1 : ¬ (first.toInt < ((high - step)).toInt) := mt Int32.lt_iff_toInt_lt.mpr c1
    omega
   have q33 : first.toInt < lim.toInt := by
    have r1 := rng32 first
    have r2 := rng32 high
    have r3 := rng32 step
    have e4 := c_isub (high) (first)
    have r4 := rng32 ((high - first))
    have e5 := c_isub (high) (step)
    have r5 := rng32 ((high - step))
    have d0 : ¬ (step.toInt < ((high - first)).toInt) := mt Int32.lt_iff_toInt_lt.mpr c0
    have d1 : ¬ (first.toInt < ((high - step)).toInt) := mt Int32.lt_iff_toInt_lt.mpr c1
    omega
   have q34 : high.toInt ≤ lim.toInt := by
    have r1 := rng32 first
    have r2 := rng32 high
    have r3 := rng32 step
    have e4 := c_isub (high) (first)
    have r4 := rng32 ((high - first))
    have e5 := c_isub (high) (step)
    have r5 := rng32 ((high - step))
    have d0 : ¬ (step.toInt < ((high - first)).toInt) := mt Int32.lt_iff_toInt_lt.mpr c0
    have d1 : ¬ (first.toInt < ((high - step)).toInt) := mt Int32.lt_iff_toInt_lt.mpr c1
    omega
   have q35 : high.toInt - first.toInt + 1 ≤ (100 : Nat) := by
    have r1 := rng32 first
    have r2 := rng32 high
    have r3 := rng32 step
    have e4 := c_isub (high) (first)
    have r4 := rng32 ((high - first))
    have e5 := c_isub (high) (step)
    have r5 := rng32 ((high - step))
    have d0 : ¬ (step.toInt < ((high - first)).toInt) := mt Int32.lt_iff_toInt_lt.mpr c0
    have d1 : ¬ (first.toInt < ((high - step)).toInt) := mt Int32.lt_iff_toInt_lt.mpr c1
    omega
   exact o_place3 Z a0 hw t n first lim frm time xs h0 A0 b1 b2 b3 b4 b5 hx hby hml hZ hown hret hlk 100 first high (step) X24 e24 q31 q32 q33 q34 q35 (fun q => q)
theorem o_pn26 : plainFor (⟨o_n1, "placeAtOrBefore", "([JIIIJ)I"⟩ : MethodName) = true := plainFor_of_name (by first | (simp [plainName, overriddenIn]; done) | decide +kernel)
theorem o_d26_0 : decode o_y0 0 = .ok (.aload_n 0, 1) := by decide +kernel
theorem o_d26_1 : decode o_y0 1 = .ok (.iload_n 3, 1) := by decide +kernel
theorem o_d26_2 : decode o_y0 2 = .ok (.laload, 1) := by decide +kernel
theorem o_d26_3 : decode o_y0 3 = .ok (.lload 4, 2) := by decide +kernel
theorem o_d26_5 : decode o_y0 5 = .ok (.lcmp, 1) := by decide +kernel
theorem o_d26_6 : decode o_y0 6 = .ok (.ifCond .gt 68, 3) := by decide +kernel
theorem o_d26_74 : decode o_y0 74 = .ok (.iload_n 3, 1) := by decide +kernel
theorem o_d26_75 : decode o_y0 75 = .ok (.istore 7, 2) := by decide +kernel
theorem o_d26_77 : decode o_y0 77 = .ok (.iconst 1, 1) := by decide +kernel
theorem o_d26_78 : decode o_y0 78 = .ok (.istore 8, 2) := by decide +kernel
theorem o_d26_9 : decode o_y0 9 = .ok (.iload_n 3, 1) := by decide +kernel
theorem o_d26_10 : decode o_y0 10 = .ok (.istore 6, 2) := by decide +kernel
theorem o_d26_12 : decode o_y0 12 = .ok (.iconst 1, 1) := by decide +kernel
theorem o_d26_13 : decode o_y0 13 = .ok (.istore 8, 2) := by decide +kernel
set_option maxRecDepth 65536 in
set_option maxHeartbeats 40000000 in
theorem o_place (l : Launch) (Z : State) (a0 : Array Value) (hw : ∀ d ∈ tables_1, d.before a0 Z = true) (t : Addr) (n first lim frm : Int32) (time : Int64) (xs : Nat → Int64) (h0 : Heap) (A0 : o_LA Z h0 t n xs) (b1 : 0 ≤ first.toInt) (b2 : first.toInt ≤ frm.toInt) (b3 : frm.toInt < lim.toInt) (b4 : lim.toInt ≤ n.toInt) (b5 : n.toInt ≤ 64) :
  o_C l (⟨o_n1, "placeAtOrBefore", "([JIIIJ)I"⟩ : MethodName) o_y0 9 (some .int) (o_R 1 0 0 13) Z h0 #[(.ref t), (.int first), (.int lim), (.int frm), (.long time)] (fun v h L => ∃ r : Int32, v = some (.int r) ∧ L = [] ∧ h = h0 ∧ first.toInt ≤ r.toInt ∧ r.toInt < lim.toInt ∧ (¬ time < xs first.toNatClampNeg → ¬ time < xs r.toNatClampNeg)) := by
 refine o_body o_pn26 ?_
 intro p e s m below meth c s₁ hx hby hml hZ hown hnm hret hlk X0 e0
 refine o_cast (f' := (o_f4 m 0 t first lim frm time [])) (by first | (simp [entryFrame, mkF, argsToLocals, Value.category, maxLocals]; done) | rfl) ?_
 refine o_q s₁ (o_f4 m 1 t first lim frm time [(.ref t)]) (fun _ k9 => XS.aloadN X0.here hx rfl (hb hby o_d26_0) rfl rfl k9) ?_
 refine o_q s₁ (o_f4 m 2 t first lim frm time [(.int frm), (.ref t)]) (fun _ k9 => XS.iloadN X0.here hx rfl (hb hby o_d26_1) rfl k9) ?_
 have hin1 : ¬ (frm < (0 : Int32)) ∧ frm < n := by
  have r1 := rng32 frm
  have r2 := rng32 n
  have k3 : (0 : Int32).toInt = 0 := by decide
  rw [Int32.lt_iff_toInt_lt, Int32.lt_iff_toInt_lt]
  omega
 refine o_dJ X0 hx hZ e0 hby A0 hin1 o_d26_2 ?_
 refine o_q s₁ (o_f4 m 5 t first lim frm time [(.long time), (.long (xs frm.toNatClampNeg))]) (fun _ k9 => XS.lload X0.here hx rfl (hb hby o_d26_3) rfl k9) ?_
 refine o_q s₁ (o_f4 m 6 t first lim frm time [(.int (lcmpW (xs frm.toNatClampNeg) time))]) (fun _ k9 => XS.lcmp X0.here hx rfl (hb hby o_d26_5) rfl k9) ?_
 by_cases c0 : time < (xs frm.toNatClampNeg)
 ·refine o_fY 74 X0 hx hby o_d26_6 ((if0 _ _).trans (tlt ((lw_gt _ _).mpr c0)).2.2.1) ?_
  refine o_q s₁ (o_f4 m 75 t first lim frm time [(.int frm)]) (fun _ k9 => XS.iloadN X0.here hx rfl (hb hby o_d26_74) rfl k9) ?_
  refine o_q s₁ (o_f5 m 77 t first lim frm time frm []) (fun _ k9 => XS.istore X0.here hx rfl (hb hby o_d26_75) rfl (l' := (o_t5 t first lim frm time frm)) rfl k9) ?_
  refine o_iC (1 : Int32) X0 hx hby o_d26_77 rfl ?_
  refine o_q s₁ (o_f3 m 80 t first lim frm time frm (1 : Int32) []) (fun _ k9 => XS.istore X0.here hx rfl (hb hby o_d26_78) rfl (l' := (o_t3 t first lim frm time frm (1 : Int32))) rfl k9) ?_
  have q2 : (1 : Int) ≤ (1 : Int32).toInt := by
   have k1 : (1 : Int32).toInt = 1 := by decide
   omega
  have q3 : (1 : Int32).toInt ≤ 100 := by
   have k1 : (1 : Int32).toInt = 1 := by decide
   omega
  have q4 : frm.toInt - first.toInt + 1 ≤ (100 : Nat) := by
   have r1 := rng32 first
   have r2 := rng32 frm
   omega
  exact o_place2 Z a0 hw t n first lim frm time xs h0 A0 b1 b2 b3 b4 b5 hx hby hml hZ hown hret hlk 100 frm (1 : Int32) X0 e0 b2 b3 q2 q3 q4
 ·refine o_fN X0 hx hby o_d26_6 ((if0 _ _).trans (flt (mt (lw_gt _ _).mp c0)).2.2.1) ?_
  refine o_q s₁ (o_f4 m 10 t first lim frm time [(.int frm)]) (fun _ k9 => XS.iloadN X0.here hx rfl (hb hby o_d26_9) rfl k9) ?_
  refine o_q s₁ (o_f6 m 12 t first lim frm time frm []) (fun _ k9 => XS.istore X0.here hx rfl (hb hby o_d26_10) rfl (l' := (o_t6 t first lim frm time frm)) rfl k9) ?_
  refine o_iC (1 : Int32) X0 hx hby o_d26_12 rfl ?_
  refine o_q s₁ (o_f2 m 15 t first lim frm time frm (1 : Int32) []) (fun _ k9 => XS.istore X0.here hx rfl (hb hby o_d26_13) rfl (l' := (o_t2 t first lim frm time frm (1 : Int32))) rfl k9) ?_
  have q5 : (1 : Int) ≤ (1 : Int32).toInt := by
   have k1 : (1 : Int32).toInt = 1 := by decide
   omega
  have q6 : (1 : Int32).toInt ≤ lim.toInt - frm.toInt := by
   have k1 : (1 : Int32).toInt = 1 := by decide
   omega
  have q7 : lim.toInt - frm.toInt ≤ (100 : Nat) := by
   have r1 := rng32 lim
   have r2 := rng32 frm
   omega
  exact o_place1 Z a0 hw t n first lim frm time xs h0 A0 b1 b2 b3 b4 b5 hx hby hml hZ hown hret hlk 100 frm (1 : Int32) X0 e0 b2 b3 q5 q6 q7 c0
theorem o_d12_0 : decode o_y3 0 = .ok (.aload_n 0, 1) := by decide +kernel
theorem o_d12_1 : decode o_y3 1 = .ok (.getfield 56, 3) := by decide +kernel
theorem o_d12_4 : decode o_y3 4 = .ok (.iconst 1, 1) := by decide +kernel
theorem o_d12_5 : decode o_y3 5 = .ok (.iadd, 1) := by decide +kernel
theorem o_d12_6 : decode o_y3 6 = .ok (.aload_n 0, 1) := by decide +kernel
theorem o_d12_7 : decode o_y3 7 = .ok (.getfield 53, 3) := by decide +kernel
theorem o_d12_10 : decode o_y3 10 = .ok (.if_icmp .eq 19, 3) := by decide +kernel
theorem o_d12_29 : decode o_y3 29 = .ok (.aload_n 0, 1) := by decide +kernel
theorem o_d12_30 : decode o_y3 30 = .ok (.getfield 56, 3) := by decide +kernel
theorem o_d12_33 : decode o_y3 33 = .ok (.ireturn, 1) := by decide +kernel
theorem o_d12_13 : decode o_y3 13 = .ok (.lload_n 1, 1) := by decide +kernel
theorem o_d12_14 : decode o_y3 14 = .ok (.aload_n 0, 1) := by decide +kernel
theorem o_d12_15 : decode o_y3 15 = .ok (.getfield 46, 3) := by decide +kernel
theorem o_d12_18 : decode o_y3 18 = .ok (.aload_n 0, 1) := by decide +kernel
theorem o_d12_19 : decode o_y3 19 = .ok (.getfield 56, 3) := by decide +kernel
theorem o_d12_22 : decode o_y3 22 = .ok (.iconst 1, 1) := by decide +kernel
theorem o_d12_23 : decode o_y3 23 = .ok (.iadd, 1) := by decide +kernel
theorem o_d12_24 : decode o_y3 24 = .ok (.laload, 1) := by decide +kernel
theorem o_d12_25 : decode o_y3 25 = .ok (.lcmp, 1) := by decide +kernel
theorem o_d12_26 : decode o_y3 26 = .ok (.ifCond .ge 8, 3) := by decide +kernel
theorem o_d12_34 : decode o_y3 34 = .ok (.aload_n 0, 1) := by decide +kernel
theorem o_d12_35 : decode o_y3 35 = .ok (.getfield 302, 3) := by decide +kernel
theorem o_d12_38 : decode o_y3 38 = .ok (.aload_n 0, 1) := by decide +kernel
theorem o_d12_39 : decode o_y3 39 = .ok (.getfield 56, 3) := by decide +kernel
theorem o_d12_42 : decode o_y3 42 = .ok (.if_icmp .lt 21, 3) := by decide +kernel
theorem o_d12_63 : decode o_y3 63 = .ok (.aload_n 0, 1) := by decide +kernel
theorem o_d12_64 : decode o_y3 64 = .ok (.getfield 56, 3) := by decide +kernel
theorem o_d12_67 : decode o_y3 67 = .ok (.istore_n 3, 1) := by decide +kernel
theorem o_d12_68 : decode o_y3 68 = .ok (.aload_n 0, 1) := by decide +kernel
theorem o_d12_69 : decode o_y3 69 = .ok (.aload_n 0, 1) := by decide +kernel
theorem o_d12_70 : decode o_y3 70 = .ok (.getfield 46, 3) := by decide +kernel
theorem o_d12_73 : decode o_y3 73 = .ok (.aload_n 0, 1) := by decide +kernel
theorem o_d12_74 : decode o_y3 74 = .ok (.getfield 56, 3) := by decide +kernel
theorem o_d12_77 : decode o_y3 77 = .ok (.aload_n 0, 1) := by decide +kernel
theorem o_d12_78 : decode o_y3 78 = .ok (.getfield 53, 3) := by decide +kernel
theorem o_d12_81 : decode o_y3 81 = .ok (.iload_n 3, 1) := by decide +kernel
theorem o_d12_82 : decode o_y3 82 = .ok (.lload_n 1, 1) := by decide +kernel
theorem o_d12_83 : decode o_y3 83 = .ok (.invokestatic 305, 3) := by decide +kernel
theorem o_pd19 : parseMethodDescriptor "([JIIIJ)I" = some ⟨[(.array .long), .int, .int, .int, .long], some .int⟩ := by decide +kernel
theorem o_d12_86 : decode o_y3 86 = .ok (.putfield 302, 3) := by decide +kernel
theorem o_d12_89 : decode o_y3 89 = .ok (.aload_n 0, 1) := by decide +kernel
theorem o_d12_90 : decode o_y3 90 = .ok (.getfield 302, 3) := by decide +kernel
theorem o_d12_93 : decode o_y3 93 = .ok (.ireturn, 1) := by decide +kernel
theorem o_d12_45 : decode o_y3 45 = .ok (.aload_n 0, 1) := by decide +kernel
theorem o_d12_46 : decode o_y3 46 = .ok (.getfield 302, 3) := by decide +kernel
theorem o_d12_49 : decode o_y3 49 = .ok (.aload_n 0, 1) := by decide +kernel
theorem o_d12_50 : decode o_y3 50 = .ok (.getfield 53, 3) := by decide +kernel
theorem o_d12_53 : decode o_y3 53 = .ok (.if_icmp .ge 10, 3) := by decide +kernel
theorem o_d12_56 : decode o_y3 56 = .ok (.aload_n 0, 1) := by decide +kernel
theorem o_d12_57 : decode o_y3 57 = .ok (.getfield 302, 3) := by decide +kernel
theorem o_d12_60 : decode o_y3 60 = .ok (.goto 7, 3) := by decide +kernel
theorem o_pn12 : plainFor (⟨o_n1, "segmentAt", "(J)I"⟩ : MethodName) = true := plainFor_of_name (by first | (simp [plainName, overriddenIn]; done) | decide +kernel)
set_option maxRecDepth 65536 in
set_option maxHeartbeats 40000000 in
theorem o_seg (l : Launch) (Z : State) (a0 : Array Value) (hw : ∀ d ∈ tables_1, d.before a0 Z = true) (n0 : Nat) (pp rc ru wa tm fr : Addr) (tl la L : Int32) (ch gb : Int64) (xs : Nat → Int64) (fs : Nat → Int32) (rs : Nat → Int64) (time : Int64) (h0 : Heap) (hP : o_Pr Z n0 pp rc ru wa tm fr tl la L ch gb xs fs rs h0) (i1 : 1 ≤ tl.toInt) (i2 : tl.toInt ≤ L.toInt) (i3 : L.toInt ≤ 32) :
  o_C l (⟨o_n1, "segmentAt", "(J)I"⟩ : MethodName) o_y3 4 (some .int) (o_R 2 0 0 34) Z h0 #[(.ref pp), (.long time)] (fun v h Ls => ∃ (r la' : Int32), v = some (.int r) ∧ Fr n0 Ls ∧ o_Pr Z n0 pp rc ru wa tm fr tl la' L ch gb xs fs rs h ∧ 0 ≤ r.toInt ∧ r.toInt < tl.toInt ∧ (¬ time < xs 0 → ¬ time < xs r.toNatClampNeg)) := by
 refine o_body o_pn12 ?_
 intro p e s m below meth c s₁ hx hby hml hZ hown hnm hret hlk X0 e0
 refine o_cast (f' := (o_f7 m 0 pp time [])) (by first | (simp [entryFrame, mkF, argsToLocals, Value.category, maxLocals]; done) | rfl) ?_
 obtain ⟨Ep1, Er1, Ew1, F1_cpus, F1_times, F1_free, F1_head, F1_tail, F1_lastAt, F1_runs, F1_firstKnown, F1_watcher, F1_watchedAs, F1_changes, F1_merged, F1_gaveBack, F1_recent, Fn1, At1, Af1, Ar1, nt1, wl1, gp1, gt1, gf1, gr1, gu1⟩ := hP
 have ne2 : o_ne pp ru := Ep1.ne Er1 (by decide)
 have ne3 : o_ne pp tm := At1.neExa Ep1 (o_m hw 8 rfl)
 have ne5 : o_ne pp fr := Af1.neExa Ep1 (o_m hw 8 rfl)
 have ne7 : o_ne pp rc := Ar1.neExa Ep1 (o_m hw 8 rfl)
 refine o_q s₁ (o_f7 m 1 pp time [(.ref pp)]) (fun _ k9 => XS.aloadN X0.here hx rfl (hb hby o_d12_0) rfl rfl k9) ?_
 refine o_gF X0 hx hZ e0 hby hown (o_m hw 94 rfl) F1_head o_d12_1 fun T16 X16 e16 => ?_
 refine o_iC (1 : Int32) X16 hx hby o_d12_4 rfl ?_
 refine o_q T16 (o_f7 m 6 pp time [(.int (1 : Int32))]) (fun _ k9 => XS.iadd X16.here hx rfl (hb hby o_d12_5) rfl k9) ?_
 refine o_q T16 (o_f7 m 7 pp time [(.ref pp), (.int (1 : Int32))]) (fun _ k9 => XS.aloadN X16.here hx rfl (hb hby o_d12_6) rfl rfl k9) ?_
 refine o_gF X16 hx hZ e16 hby hown (o_m hw 48 rfl) F1_tail o_d12_7 fun T17 X17 e17 => ?_
 by_cases c0 : (1 : Int32) = tl
 ·refine o_cY 29 X17 hx hby o_d12_10 (teq c0).1 ?_
  refine o_q T17 (o_f7 m 30 pp time [(.ref pp)]) (fun _ k9 => XS.aloadN X17.here hx rfl (hb hby o_d12_29) rfl rfl k9) ?_
  refine o_gF X17 hx hZ e17 hby hown (o_m hw 94 rfl) F1_head o_d12_30 fun T18 X18 e18 => ?_
  have hP19 : o_Pr Z n0 pp rc ru wa tm fr tl la L ch gb xs fs rs h0 := ⟨Ep1, Er1, Ew1, F1_cpus, F1_times, F1_free, F1_head, F1_tail, F1_lastAt, F1_runs, F1_firstKnown, F1_watcher, F1_watchedAs, F1_changes, F1_merged, F1_gaveBack, F1_recent, Fn1, At1, Af1, Ar1, nt1, wl1, gp1, gt1, gf1, gr1, gu1⟩
  have q20 : 0 ≤ (0 : Int32).toInt := by
   have k1 : (0 : Int32).toInt = 0 := by decide
   have k2 : (1 : Int32).toInt = 1 := by decide
   have r3 := rng32 tl
   have d0 : (1 : Int32).toInt = tl.toInt := congrArg Int32.toInt c0
   omega
  have q21 : (0 : Int32).toInt < tl.toInt := by
   have k1 : (0 : Int32).toInt = 0 := by decide
   have k2 : (1 : Int32).toInt = 1 := by decide
   have r3 := rng32 tl
   have d0 : (1 : Int32).toInt = tl.toInt := congrArg Int32.toInt c0
   omega
  refine o_retI X18 hx hlk hret (hb hby o_d12_33) ?_ (o_b rfl) (o_b rfl)
  rw [e18]
  exact ⟨(0 : Int32), la, rfl, Fr.nil _, hP19, q20, q21, (fun q => q)⟩
 ·refine o_cN X17 hx hby o_d12_10 (feq c0).1 ?_
  refine o_q T17 (o_f7 m 14 pp time [(.long time)]) (fun _ k9 => XS.lloadN X17.here hx rfl (hb hby o_d12_13) rfl k9) ?_
  refine o_q T17 (o_f7 m 15 pp time [(.ref pp), (.long time)]) (fun _ k9 => XS.aloadN X17.here hx rfl (hb hby o_d12_14) rfl rfl k9) ?_
  refine o_gF X17 hx hZ e17 hby hown (o_m hw 43 rfl) F1_times o_d12_15 fun T22 X22 e22 => ?_
  refine o_q T22 (o_f7 m 19 pp time [(.ref pp), (.ref tm), (.long time)]) (fun _ k9 => XS.aloadN X22.here hx rfl (hb hby o_d12_18) rfl rfl k9) ?_
  refine o_gF X22 hx hZ e22 hby hown (o_m hw 94 rfl) F1_head o_d12_19 fun T23 X23 e23 => ?_
  refine o_iC (1 : Int32) X23 hx hby o_d12_22 rfl ?_
  refine o_q T23 (o_f7 m 24 pp time [(.int (1 : Int32)), (.ref tm), (.long time)]) (fun _ k9 => XS.iadd X23.here hx rfl (hb hby o_d12_23) rfl k9) ?_
  have hin24 : ¬ ((1 : Int32) < (0 : Int32)) ∧ (1 : Int32) < L := by
   have k1 : (1 : Int32).toInt = 1 := by decide
   have r2 := rng32 L
   have k3 : (0 : Int32).toInt = 0 := by decide
   have r4 := rng32 tl
   have d0 : ¬ ((1 : Int32).toInt = tl.toInt) := fun q => c0 (Int32.toInt_inj.mp q)
   rw [Int32.lt_iff_toInt_lt, Int32.lt_iff_toInt_lt]
   omega
  refine o_dJ X23 hx hZ e23 hby At1 hin24 o_d12_24 ?_
  refine o_q T23 (o_f7 m 26 pp time [(.int (lcmpW time (xs (1 : Int32).toNatClampNeg)))]) (fun _ k9 => XS.lcmp X23.here hx rfl (hb hby o_d12_25) rfl k9) ?_
  by_cases c1 : time < (xs (1 : Int32).toNatClampNeg)
  ·refine o_fN X23 hx hby o_d12_26 ((if0 _ _).trans (tlt ((lw_lt _ _).mpr c1)).2.1) ?_
   refine o_q T23 (o_f7 m 30 pp time [(.ref pp)]) (fun _ k9 => XS.aloadN X23.here hx rfl (hb hby o_d12_29) rfl rfl k9) ?_
   refine o_gF X23 hx hZ e23 hby hown (o_m hw 94 rfl) F1_head o_d12_30 fun T25 X25 e25 => ?_
   have hP26 : o_Pr Z n0 pp rc ru wa tm fr tl la L ch gb xs fs rs h0 := ⟨Ep1, Er1, Ew1, F1_cpus, F1_times, F1_free, F1_head, F1_tail, F1_lastAt, F1_runs, F1_firstKnown, F1_watcher, F1_watchedAs, F1_changes, F1_merged, F1_gaveBack, F1_recent, Fn1, At1, Af1, Ar1, nt1, wl1, gp1, gt1, gf1, gr1, gu1⟩
   have q27 : 0 ≤ (0 : Int32).toInt := by
    have k1 : (0 : Int32).toInt = 0 := by decide
    have k2 : (1 : Int32).toInt = 1 := by decide
    have r3 := rng32 tl
    have d0 : ¬ ((1 : Int32).toInt = tl.toInt) := fun q => c0 (Int32.toInt_inj.mp q)
    omega
   have q28 : (0 : Int32).toInt < tl.toInt := by
    have k1 : (0 : Int32).toInt = 0 := by decide
    have k2 : (1 : Int32).toInt = 1 := by decide
    have r3 := rng32 tl
    have d0 : ¬ ((1 : Int32).toInt = tl.toInt) := fun q => c0 (Int32.toInt_inj.mp q)
    omega
   refine o_retI X25 hx hlk hret (hb hby o_d12_33) ?_ (o_b rfl) (o_b rfl)
   rw [e25]
   exact ⟨(0 : Int32), la, rfl, Fr.nil _, hP26, q27, q28, (fun q => q)⟩
  ·refine o_fY 34 X23 hx hby o_d12_26 ((if0 _ _).trans (flt (mt (lw_lt _ _).mp c1)).2.1) ?_
   refine o_q T23 (o_f7 m 35 pp time [(.ref pp)]) (fun _ k9 => XS.aloadN X23.here hx rfl (hb hby o_d12_34) rfl rfl k9) ?_
   refine o_gF X23 hx hZ e23 hby hown (o_m hw 148 rfl) F1_lastAt o_d12_35 fun T29 X29 e29 => ?_
   refine o_q T29 (o_f7 m 39 pp time [(.ref pp), (.int la)]) (fun _ k9 => XS.aloadN X29.here hx rfl (hb hby o_d12_38) rfl rfl k9) ?_
   refine o_gF X29 hx hZ e29 hby hown (o_m hw 94 rfl) F1_head o_d12_39 fun T30 X30 e30 => ?_
   by_cases c2 : la < (0 : Int32)
   ·refine o_cY 63 X30 hx hby o_d12_42 (tlt c2).1 ?_
    refine o_q T30 (o_f7 m 64 pp time [(.ref pp)]) (fun _ k9 => XS.aloadN X30.here hx rfl (hb hby o_d12_63) rfl rfl k9) ?_
    refine o_gF X30 hx hZ e30 hby hown (o_m hw 94 rfl) F1_head o_d12_64 fun T31 X31 e31 => ?_
    refine o_q T31 (o_f8 m 68 pp time (0 : Int32) []) (fun _ k9 => XS.istoreN X31.here hx rfl (hb hby o_d12_67) rfl (l' := (o_t8 pp time (0 : Int32))) rfl k9) ?_
    refine o_q T31 (o_f8 m 69 pp time (0 : Int32) [(.ref pp)]) (fun _ k9 => XS.aloadN X31.here hx rfl (hb hby o_d12_68) rfl rfl k9) ?_
    refine o_q T31 (o_f8 m 70 pp time (0 : Int32) [(.ref pp), (.ref pp)]) (fun _ k9 => XS.aloadN X31.here hx rfl (hb hby o_d12_69) rfl rfl k9) ?_
    refine o_gF X31 hx hZ e31 hby hown (o_m hw 43 rfl) F1_times o_d12_70 fun T32 X32 e32 => ?_
    refine o_q T32 (o_f8 m 74 pp time (0 : Int32) [(.ref pp), (.ref tm), (.ref pp)]) (fun _ k9 => XS.aloadN X32.here hx rfl (hb hby o_d12_73) rfl rfl k9) ?_
    refine o_gF X32 hx hZ e32 hby hown (o_m hw 94 rfl) F1_head o_d12_74 fun T33 X33 e33 => ?_
    refine o_q T33 (o_f8 m 78 pp time (0 : Int32) [(.ref pp), (.int (0 : Int32)), (.ref tm), (.ref pp)]) (fun _ k9 => XS.aloadN X33.here hx rfl (hb hby o_d12_77) rfl rfl k9) ?_
    refine o_gF X33 hx hZ e33 hby hown (o_m hw 48 rfl) F1_tail o_d12_78 fun T34 X34 e34 => ?_
    refine o_q T34 (o_f8 m 82 pp time (0 : Int32) [(.int (0 : Int32)), (.int tl), (.int (0 : Int32)), (.ref tm), (.ref pp)]) (fun _ k9 => XS.iloadN X34.here hx rfl (hb hby o_d12_81) rfl k9) ?_
    refine o_q T34 (o_f8 m 83 pp time (0 : Int32) [(.long time), (.int (0 : Int32)), (.int tl), (.int (0 : Int32)), (.ref tm), (.ref pp)]) (fun _ k9 => XS.lloadN X34.here hx rfl (hb hby o_d12_82) rfl k9) ?_
    have q35 : 0 ≤ (0 : Int32).toInt := by
     have k1 : (0 : Int32).toInt = 0 := by decide
     have k2 : (1 : Int32).toInt = 1 := by decide
     have r3 := rng32 tl
     have r4 := rng32 la
     have d0 : ¬ ((1 : Int32).toInt = tl.toInt) := fun q => c0 (Int32.toInt_inj.mp q)
     have d2 : la.toInt < (0 : Int32).toInt := Int32.lt_iff_toInt_lt.mp c2
     omega
    have q36 : (0 : Int32).toInt ≤ (0 : Int32).toInt := by
     have k1 : (0 : Int32).toInt = 0 := by decide
     have k2 : (1 : Int32).toInt = 1 := by decide
     have r3 := rng32 tl
     have r4 := rng32 la
     have d0 : ¬ ((1 : Int32).toInt = tl.toInt) := fun q => c0 (Int32.toInt_inj.mp q)
     have d2 : la.toInt < (0 : Int32).toInt := Int32.lt_iff_toInt_lt.mp c2
     omega
    have q37 : (0 : Int32).toInt < tl.toInt := by
     have k1 : (0 : Int32).toInt = 0 := by decide
     have r2 := rng32 tl
     have k3 : (1 : Int32).toInt = 1 := by decide
     have r4 := rng32 la
     have d0 : ¬ ((1 : Int32).toInt = tl.toInt) := fun q => c0 (Int32.toInt_inj.mp q)
     have d2 : la.toInt < (0 : Int32).toInt := Int32.lt_iff_toInt_lt.mp c2
     omega
    have q38 : tl.toInt ≤ L.toInt := by
     have r1 := rng32 tl
     have r2 := rng32 L
     have k3 : (1 : Int32).toInt = 1 := by decide
     have r4 := rng32 la
     have k5 : (0 : Int32).toInt = 0 := by decide
     have d0 : ¬ ((1 : Int32).toInt = tl.toInt) := fun q => c0 (Int32.toInt_inj.mp q)
     have d2 : la.toInt < (0 : Int32).toInt := Int32.lt_iff_toInt_lt.mp c2
     omega
    have q39 : L.toInt ≤ 64 := by
     have r1 := rng32 L
     have k2 : (1 : Int32).toInt = 1 := by decide
     have r3 := rng32 tl
     have r4 := rng32 la
     have k5 : (0 : Int32).toInt = 0 := by decide
     have d0 : ¬ ((1 : Int32).toInt = tl.toInt) := fun q => c0 (Int32.toInt_inj.mp q)
     have d2 : la.toInt < (0 : Int32).toInt := Int32.lt_iff_toInt_lt.mp c2
     omega
    obtain ⟨v40, T40, L40, hQ40, X40, st40⟩ := o_callS X34 hx hZ e34 hown (o_m hw 150 rfl) (o_m hw 151 rfl) (by decide) (o_m hw 152 rfl) (o_m hw 9 rfl) (o_place l Z a0 hw tm L (0 : Int32) tl (0 : Int32) time xs h0 At1 q35 q36 q37 q38 q39) (g := (o_f8 m 83 pp time (0 : Int32) [(.long time), (.int (0 : Int32)), (.int tl), (.int (0 : Int32)), (.ref tm), (.ref pp)])) rfl (by rw [hml]; rfl) rfl (argsL := [(.ref tm), (.int (0 : Int32)), (.int tl), (.int (0 : Int32)), (.long time)]) (rest := [(.ref pp)]) rfl (lenOf o_pd19 rfl) rfl (hb hby o_d12_83) (o_b rfl) (o_b rfl) (o_b rfl) (o_b rfl)
    obtain ⟨r40, rfl, rfl, e40, u40, v40x, w40⟩ := hQ40
    rw [List.append_nil] at X40
    refine o_q T40 (o_f8 m 86 pp time (0 : Int32) [(.int r40), (.ref pp)]) st40 ?_
    refine o_pF X40 hx hZ e40 hby (ty := .int) hown (o_m hw 148 rfl) F1_lastAt Ep1 (Or.inl (o_m hw 149 rfl)) (o_m hw 8 rfl) (by decide) rfl rfl o_d12_86 fun T41 h41 X41 e41 W41 => ?_
    have Fw41 := F1_lastAt.same W41
    have N_41 := Fr.snoc X41 (Fr.nil _) gp1
    have Y42 := Ep1.wr W41
    have Y43 := Er1.wr W41
    have Y44 := Ew1.wr W41
    have Y45 := F1_cpus.other W41 (o_sn (Or.inr (o_m hw 41 rfl)) (Or.inl (o_m hw 149 rfl)))
    have Y46 := F1_times.other W41 (o_sn (Or.inl (o_m hw 44 rfl)) (Or.inl (o_m hw 149 rfl)))
    have Y47 := F1_free.other W41 (o_sn (Or.inl (o_m hw 47 rfl)) (Or.inl (o_m hw 149 rfl)))
    have Y48 := F1_head.other W41 (o_sn (Or.inl (o_m hw 95 rfl)) (Or.inl (o_m hw 149 rfl)))
    have Y49 := F1_tail.other W41 (o_sn (Or.inl (o_m hw 49 rfl)) (Or.inl (o_m hw 149 rfl)))
    have Y51 := F1_runs.other W41 (o_sn (Or.inr (o_m hw 26 rfl)) (Or.inl (o_m hw 149 rfl)))
    have Y52 := F1_firstKnown.other W41 (o_sn (Or.inl (o_m hw 66 rfl)) (Or.inl (o_m hw 149 rfl)))
    have Y53 := F1_watcher.other W41 (o_sn (Or.inl (o_m hw 39 rfl)) (Or.inl (o_m hw 149 rfl)))
    have Y54 := F1_watchedAs.other W41 (o_sn (Or.inl (o_m hw 68 rfl)) (Or.inl (o_m hw 149 rfl)))
    have Y55 := F1_changes.other W41 (o_sn (Or.inl (o_m hw 80 rfl)) (Or.inl (o_m hw 149 rfl)))
    have Y56 := F1_merged.other W41 (o_sn (Or.inl (o_m hw 177 rfl)) (Or.inl (o_m hw 149 rfl)))
    have Y57 := F1_gaveBack.other W41 (o_sn (Or.inl (o_m hw 179 rfl)) (Or.inl (o_m hw 149 rfl)))
    have Y58 := F1_recent.other W41 (o_sn (Or.inr (o_m hw 35 rfl)) (Or.inl (o_m hw 149 rfl)))
    have Y59 := Fn1.other W41 (Or.inl (Ne.symm ne2))
    have Y60 := At1.other W41 (Ne.symm ne3)
    have Y61 := Af1.other W41 (Ne.symm ne5)
    have Y62 := Ar1.other W41 (Ne.symm ne7)
    refine o_q T41 (o_f8 m 90 pp time (0 : Int32) [(.ref pp)]) (fun _ k9 => XS.aloadN X41.here hx rfl (hb hby o_d12_89) rfl rfl k9) ?_
    refine o_gF X41 hx hZ e41 hby hown (o_m hw 148 rfl) Fw41 o_d12_90 fun T63 X63 e63 => ?_
    have hP64 : o_Pr Z n0 pp rc ru wa tm fr tl r40 L ch gb xs fs rs h41 := ⟨Y42, Y43, Y44, Y45, Y46, Y47, Y48, Y49, Fw41, Y51, Y52, Y53, Y54, Y55, Y56, Y57, Y58, Y59, Y60, Y61, Y62, nt1, wl1, gp1, gt1, gf1, gr1, gu1⟩
    have q65 : 0 ≤ r40.toInt := by
     have r1 := rng32 r40
     have k2 : (1 : Int32).toInt = 1 := by decide
     have r3 := rng32 tl
     have r4 := rng32 la
     have k5 : (0 : Int32).toInt = 0 := by decide
     have d0 : ¬ ((1 : Int32).toInt = tl.toInt) := fun q => c0 (Int32.toInt_inj.mp q)
     have d2 : la.toInt < (0 : Int32).toInt := Int32.lt_iff_toInt_lt.mp c2
     omega
    have q66 : r40.toInt < tl.toInt := by
     have r1 := rng32 r40
     have k2 : (1 : Int32).toInt = 1 := by decide
     have r3 := rng32 tl
     have r4 := rng32 la
     have k5 : (0 : Int32).toInt = 0 := by decide
     have d0 : ¬ ((1 : Int32).toInt = tl.toInt) := fun q => c0 (Int32.toInt_inj.mp q)
     have d2 : la.toInt < (0 : Int32).toInt := Int32.lt_iff_toInt_lt.mp c2
     omega
    refine o_retI X63 hx hlk hret (hb hby o_d12_93) ?_ (o_b rfl) (o_b rfl)
    rw [e63]
    exact ⟨r40, r40, rfl, N_41, hP64, q65, q66, w40⟩
   ·refine o_cN X30 hx hby o_d12_42 (flt c2).1 ?_
    refine o_q T30 (o_f7 m 46 pp time [(.ref pp)]) (fun _ k9 => XS.aloadN X30.here hx rfl (hb hby o_d12_45) rfl rfl k9) ?_
    refine o_gF X30 hx hZ e30 hby hown (o_m hw 148 rfl) F1_lastAt o_d12_46 fun T67 X67 e67 => ?_
    refine o_q T67 (o_f7 m 50 pp time [(.ref pp), (.int la)]) (fun _ k9 => XS.aloadN X67.here hx rfl (hb hby o_d12_49) rfl rfl k9) ?_
    refine o_gF X67 hx hZ e67 hby hown (o_m hw 48 rfl) F1_tail o_d12_50 fun T68 X68 e68 => ?_
    by_cases c3 : la < tl
    ·refine o_cN X68 hx hby o_d12_53 (tlt c3).2.1 ?_
     refine o_q T68 (o_f7 m 57 pp time [(.ref pp)]) (fun _ k9 => XS.aloadN X68.here hx rfl (hb hby o_d12_56) rfl rfl k9) ?_
     refine o_gF X68 hx hZ e68 hby hown (o_m hw 148 rfl) F1_lastAt o_d12_57 fun T69 X69 e69 => ?_
     refine o_go 67 X69 hx hby o_d12_60 ?_
     refine o_q T69 (o_f8 m 68 pp time la []) (fun _ k9 => XS.istoreN X69.here hx rfl (hb hby o_d12_67) rfl (l' := (o_t8 pp time la)) rfl k9) ?_
     refine o_q T69 (o_f8 m 69 pp time la [(.ref pp)]) (fun _ k9 => XS.aloadN X69.here hx rfl (hb hby o_d12_68) rfl rfl k9) ?_
     refine o_q T69 (o_f8 m 70 pp time la [(.ref pp), (.ref pp)]) (fun _ k9 => XS.aloadN X69.here hx rfl (hb hby o_d12_69) rfl rfl k9) ?_
     refine o_gF X69 hx hZ e69 hby hown (o_m hw 43 rfl) F1_times o_d12_70 fun T70 X70 e70 => ?_
     refine o_q T70 (o_f8 m 74 pp time la [(.ref pp), (.ref tm), (.ref pp)]) (fun _ k9 => XS.aloadN X70.here hx rfl (hb hby o_d12_73) rfl rfl k9) ?_
     refine o_gF X70 hx hZ e70 hby hown (o_m hw 94 rfl) F1_head o_d12_74 fun T71 X71 e71 => ?_
     refine o_q T71 (o_f8 m 78 pp time la [(.ref pp), (.int (0 : Int32)), (.ref tm), (.ref pp)]) (fun _ k9 => XS.aloadN X71.here hx rfl (hb hby o_d12_77) rfl rfl k9) ?_
     refine o_gF X71 hx hZ e71 hby hown (o_m hw 48 rfl) F1_tail o_d12_78 fun T72 X72 e72 => ?_
     refine o_q T72 (o_f8 m 82 pp time la [(.int la), (.int tl), (.int (0 : Int32)), (.ref tm), (.ref pp)]) (fun _ k9 => XS.iloadN X72.here hx rfl (hb hby o_d12_81) rfl k9) ?_
     refine o_q T72 (o_f8 m 83 pp time la [(.long time), (.int la), (.int tl), (.int (0 : Int32)), (.ref tm), (.ref pp)]) (fun _ k9 => XS.lloadN X72.here hx rfl (hb hby o_d12_82) rfl k9) ?_
     have q73 : 0 ≤ (0 : Int32).toInt := by
      have k1 : (0 : Int32).toInt = 0 := by decide
      have k2 : (1 : Int32).toInt = 1 := by decide
      have r3 := rng32 tl
      have r4 := rng32 la
      have d0 : ¬ ((1 : Int32).toInt = tl.toInt) := fun q => c0 (Int32.toInt_inj.mp q)
      have d2 : ¬ (la.toInt < (0 : Int32).toInt) := mt Int32.lt_iff_toInt_lt.mpr c2
      have d3 : la.toInt < tl.toInt := Int32.lt_iff_toInt_lt.mp c3
      omega
     have q74 : (0 : Int32).toInt ≤ la.toInt := by
      have k1 : (0 : Int32).toInt = 0 := by decide
      have r2 := rng32 la
      have k3 : (1 : Int32).toInt = 1 := by decide
      have r4 := rng32 tl
      have d0 : ¬ ((1 : Int32).toInt = tl.toInt) := fun q => c0 (Int32.toInt_inj.mp q)
      have d2 : ¬ (la.toInt < (0 : Int32).toInt) := mt Int32.lt_iff_toInt_lt.mpr c2
      have d3 : la.toInt < tl.toInt := Int32.lt_iff_toInt_lt.mp c3
      omega
     have q75 : la.toInt < tl.toInt := by
      have r1 := rng32 la
      have r2 := rng32 tl
      have k3 : (1 : Int32).toInt = 1 := by decide
      have k4 : (0 : Int32).toInt = 0 := by decide
      have d0 : ¬ ((1 : Int32).toInt = tl.toInt) := fun q => c0 (Int32.toInt_inj.mp q)
      have d2 : ¬ (la.toInt < (0 : Int32).toInt) := mt Int32.lt_iff_toInt_lt.mpr c2
      have d3 : la.toInt < tl.toInt := Int32.lt_iff_toInt_lt.mp c3
      omega
     have q76 : tl.toInt ≤ L.toInt := by
      have r1 := rng32 tl
      have r2 := rng32 L
      have k3 : (1 : Int32).toInt = 1 := by decide
      have r4 := rng32 la
      have k5 : (0 : Int32).toInt = 0 := by decide
      have d0 : ¬ ((1 : Int32).toInt = tl.toInt) := fun q => c0 (Int32.toInt_inj.mp q)
      have d2 : ¬ (la.toInt < (0 : Int32).toInt) := mt Int32.lt_iff_toInt_lt.mpr c2
      have d3 : la.toInt < tl.toInt := Int32.lt_iff_toInt_lt.mp c3
      omega
     have q77 : L.toInt ≤ 64 := by
      have r1 := rng32 L
      have k2 : (1 : Int32).toInt = 1 := by decide
      have r3 := rng32 tl
      have r4 := rng32 la
      have k5 : (0 : Int32).toInt = 0 := by decide
      have d0 : ¬ ((1 : Int32).toInt = tl.toInt) := fun q => c0 (Int32.toInt_inj.mp q)
      have d2 : ¬ (la.toInt < (0 : Int32).toInt) := mt Int32.lt_iff_toInt_lt.mpr c2
      have d3 : la.toInt < tl.toInt := Int32.lt_iff_toInt_lt.mp c3
      omega
     obtain ⟨v78, T78, L78, hQ78, X78, st78⟩ := o_callS X72 hx hZ e72 hown (o_m hw 150 rfl) (o_m hw 151 rfl) (by decide) (o_m hw 152 rfl) (o_m hw 9 rfl) (o_place l Z a0 hw tm L (0 : Int32) tl la time xs h0 At1 q73 q74 q75 q76 q77) (g := (o_f8 m 83 pp time la [(.long time), (.int la), (.int tl), (.int (0 : Int32)), (.ref tm), (.ref pp)])) rfl (by rw [hml]; rfl) rfl (argsL := [(.ref tm), (.int (0 : Int32)), (.int tl), (.int la), (.long time)]) (rest := [(.ref pp)]) rfl (lenOf o_pd19 rfl) rfl (hb hby o_d12_83) (o_b rfl) (o_b rfl) (o_b rfl) (o_b rfl)
     obtain ⟨r78, rfl, rfl, e78, u78, v78x, w78⟩ := hQ78
     rw [List.append_nil] at X78
     refine o_q T78 (o_f8 m 86 pp time la [(.int r78), (.ref pp)]) st78 ?_
     refine o_pF X78 hx hZ e78 hby (ty := .int) hown (o_m hw 148 rfl) F1_lastAt Ep1 (Or.inl (o_m hw 149 rfl)) (o_m hw 8 rfl) (by decide) rfl rfl o_d12_86 fun T79 h79 X79 e79 W79 => ?_
     have Fw79 := F1_lastAt.same W79
     have N_79 := Fr.snoc X79 (Fr.nil _) gp1
     have Y80 := Ep1.wr W79
     have Y81 := Er1.wr W79
     have Y82 := Ew1.wr W79
     have Y83 := F1_cpus.other W79 (o_sn (Or.inr (o_m hw 41 rfl)) (Or.inl (o_m hw 149 rfl)))
     have Y84 := F1_times.other W79 (o_sn (Or.inl (o_m hw 44 rfl)) (Or.inl (o_m hw 149 rfl)))
     have Y85 := F1_free.other W79 (o_sn (Or.inl (o_m hw 47 rfl)) (Or.inl (o_m hw 149 rfl)))
     have Y86 := F1_head.other W79 (o_sn (Or.inl (o_m hw 95 rfl)) (Or.inl (o_m hw 149 rfl)))
     have Y87 := F1_tail.other W79 (o_sn (Or.inl (o_m hw 49 rfl)) (Or.inl (o_m hw 149 rfl)))
     have Y89 := F1_runs.other W79 (o_sn (Or.inr (o_m hw 26 rfl)) (Or.inl (o_m hw 149 rfl)))
     have Y90 := F1_firstKnown.other W79 (o_sn (Or.inl (o_m hw 66 rfl)) (Or.inl (o_m hw 149 rfl)))
     have Y91 := F1_watcher.other W79 (o_sn (Or.inl (o_m hw 39 rfl)) (Or.inl (o_m hw 149 rfl)))
     have Y92 := F1_watchedAs.other W79 (o_sn (Or.inl (o_m hw 68 rfl)) (Or.inl (o_m hw 149 rfl)))
     have Y93 := F1_changes.other W79 (o_sn (Or.inl (o_m hw 80 rfl)) (Or.inl (o_m hw 149 rfl)))
     have Y94 := F1_merged.other W79 (o_sn (Or.inl (o_m hw 177 rfl)) (Or.inl (o_m hw 149 rfl)))
     have Y95 := F1_gaveBack.other W79 (o_sn (Or.inl (o_m hw 179 rfl)) (Or.inl (o_m hw 149 rfl)))
     have Y96 := F1_recent.other W79 (o_sn (Or.inr (o_m hw 35 rfl)) (Or.inl (o_m hw 149 rfl)))
     have Y97 := Fn1.other W79 (Or.inl (Ne.symm ne2))
     have Y98 := At1.other W79 (Ne.symm ne3)
     have Y99 := Af1.other W79 (Ne.symm ne5)
     have Y100 := Ar1.other W79 (Ne.symm ne7)
     refine o_q T79 (o_f8 m 90 pp time la [(.ref pp)]) (fun _ k9 => XS.aloadN X79.here hx rfl (hb hby o_d12_89) rfl rfl k9) ?_
     refine o_gF X79 hx hZ e79 hby hown (o_m hw 148 rfl) Fw79 o_d12_90 fun T101 X101 e101 => ?_
     have hP102 : o_Pr Z n0 pp rc ru wa tm fr tl r78 L ch gb xs fs rs h79 := ⟨Y80, Y81, Y82, Y83, Y84, Y85, Y86, Y87, Fw79, Y89, Y90, Y91, Y92, Y93, Y94, Y95, Y96, Y97, Y98, Y99, Y100, nt1, wl1, gp1, gt1, gf1, gr1, gu1⟩
     have q103 : 0 ≤ r78.toInt := by
      have r1 := rng32 r78
      have k2 : (1 : Int32).toInt = 1 := by decide
      have r3 := rng32 tl
      have r4 := rng32 la
      have k5 : (0 : Int32).toInt = 0 := by decide
      have d0 : ¬ ((1 : Int32).toInt = tl.toInt) := fun q => c0 (Int32.toInt_inj.mp q)
      have d2 : ¬ (la.toInt < (0 : Int32).toInt) := mt Int32.lt_iff_toInt_lt.mpr c2
      have d3 : la.toInt < tl.toInt := Int32.lt_iff_toInt_lt.mp c3
      omega
     have q104 : r78.toInt < tl.toInt := by
      have r1 := rng32 r78
      have k2 : (1 : Int32).toInt = 1 := by decide
      have r3 := rng32 tl
      have r4 := rng32 la
      have k5 : (0 : Int32).toInt = 0 := by decide
      have d0 : ¬ ((1 : Int32).toInt = tl.toInt) := fun q => c0 (Int32.toInt_inj.mp q)
      have d2 : ¬ (la.toInt < (0 : Int32).toInt) := mt Int32.lt_iff_toInt_lt.mpr c2
      have d3 : la.toInt < tl.toInt := Int32.lt_iff_toInt_lt.mp c3
      omega
     refine o_retI X101 hx hlk hret (hb hby o_d12_93) ?_ (o_b rfl) (o_b rfl)
     rw [e101]
     exact ⟨r78, r78, rfl, N_79, hP102, q103, q104, w78⟩
    ·refine o_cY 63 X68 hx hby o_d12_53 (flt c3).2.1 ?_
     refine o_q T68 (o_f7 m 64 pp time [(.ref pp)]) (fun _ k9 => XS.aloadN X68.here hx rfl (hb hby o_d12_63) rfl rfl k9) ?_
     refine o_gF X68 hx hZ e68 hby hown (o_m hw 94 rfl) F1_head o_d12_64 fun T105 X105 e105 => ?_
     refine o_q T105 (o_f8 m 68 pp time (0 : Int32) []) (fun _ k9 => XS.istoreN X105.here hx rfl (hb hby o_d12_67) rfl (l' := (o_t8 pp time (0 : Int32))) rfl k9) ?_
     refine o_q T105 (o_f8 m 69 pp time (0 : Int32) [(.ref pp)]) (fun _ k9 => XS.aloadN X105.here hx rfl (hb hby o_d12_68) rfl rfl k9) ?_
     refine o_q T105 (o_f8 m 70 pp time (0 : Int32) [(.ref pp), (.ref pp)]) (fun _ k9 => XS.aloadN X105.here hx rfl (hb hby o_d12_69) rfl rfl k9) ?_
     refine o_gF X105 hx hZ e105 hby hown (o_m hw 43 rfl) F1_times o_d12_70 fun T106 X106 e106 => ?_
     refine o_q T106 (o_f8 m 74 pp time (0 : Int32) [(.ref pp), (.ref tm), (.ref pp)]) (fun _ k9 => XS.aloadN X106.here hx rfl (hb hby o_d12_73) rfl rfl k9) ?_
     refine o_gF X106 hx hZ e106 hby hown (o_m hw 94 rfl) F1_head o_d12_74 fun T107 X107 e107 => ?_
     refine o_q T107 (o_f8 m 78 pp time (0 : Int32) [(.ref pp), (.int (0 : Int32)), (.ref tm), (.ref pp)]) (fun _ k9 => XS.aloadN X107.here hx rfl (hb hby o_d12_77) rfl rfl k9) ?_
     refine o_gF X107 hx hZ e107 hby hown (o_m hw 48 rfl) F1_tail o_d12_78 fun T108 X108 e108 => ?_
     refine o_q T108 (o_f8 m 82 pp time (0 : Int32) [(.int (0 : Int32)), (.int tl), (.int (0 : Int32)), (.ref tm), (.ref pp)]) (fun _ k9 => XS.iloadN X108.here hx rfl (hb hby o_d12_81) rfl k9) ?_
     refine o_q T108 (o_f8 m 83 pp time (0 : Int32) [(.long time), (.int (0 : Int32)), (.int tl), (.int (0 : Int32)), (.ref tm), (.ref pp)]) (fun _ k9 => XS.lloadN X108.here hx rfl (hb hby o_d12_82) rfl k9) ?_
     have q109 : 0 ≤ (0 : Int32).toInt := by
      have k1 : (0 : Int32).toInt = 0 := by decide
      have k2 : (1 : Int32).toInt = 1 := by decide
      have r3 := rng32 tl
      have r4 := rng32 la
      have d0 : ¬ ((1 : Int32).toInt = tl.toInt) := fun q => c0 (Int32.toInt_inj.mp q)
      have d2 : ¬ (la.toInt < (0 : Int32).toInt) := mt Int32.lt_iff_toInt_lt.mpr c2
      have d3 : ¬ (la.toInt < tl.toInt) := mt Int32.lt_iff_toInt_lt.mpr c3
      omega
     have q110 : (0 : Int32).toInt ≤ (0 : Int32).toInt := by
      have k1 : (0 : Int32).toInt = 0 := by decide
      have k2 : (1 : Int32).toInt = 1 := by decide
      have r3 := rng32 tl
      have r4 := rng32 la
      have d0 : ¬ ((1 : Int32).toInt = tl.toInt) := fun q => c0 (Int32.toInt_inj.mp q)
      have d2 : ¬ (la.toInt < (0 : Int32).toInt) := mt Int32.lt_iff_toInt_lt.mpr c2
      have d3 : ¬ (la.toInt < tl.toInt) := mt Int32.lt_iff_toInt_lt.mpr c3
      omega
     have q111 : (0 : Int32).toInt < tl.toInt := by
      have k1 : (0 : Int32).toInt = 0 := by decide
      have r2 := rng32 tl
      have k3 : (1 : Int32).toInt = 1 := by decide
      have r4 := rng32 la
      have d0 : ¬ ((1 : Int32).toInt = tl.toInt) := fun q => c0 (Int32.toInt_inj.mp q)
      have d2 : ¬ (la.toInt < (0 : Int32).toInt) := mt Int32.lt_iff_toInt_lt.mpr c2
      have d3 : ¬ (la.toInt < tl.toInt) := mt Int32.lt_iff_toInt_lt.mpr c3
      omega
     have q112 : tl.toInt ≤ L.toInt := by
      have r1 := rng32 tl
      have r2 := rng32 L
      have k3 : (1 : Int32).toInt = 1 := by decide
      have r4 := rng32 la
      have k5 : (0 : Int32).toInt = 0 := by decide
      have d0 : ¬ ((1 : Int32).toInt = tl.toInt) := fun q => c0 (Int32.toInt_inj.mp q)
      have d2 : ¬ (la.toInt < (0 : Int32).toInt) := mt Int32.lt_iff_toInt_lt.mpr c2
      have d3 : ¬ (la.toInt < tl.toInt) := mt Int32.lt_iff_toInt_lt.mpr c3
      omega
     have q113 : L.toInt ≤ 64 := by
      have r1 := rng32 L
      have k2 : (1 : Int32).toInt = 1 := by decide
      have r3 := rng32 tl
      have r4 := rng32 la
      have k5 : (0 : Int32).toInt = 0 := by decide
      have d0 : ¬ ((1 : Int32).toInt = tl.toInt) := fun q => c0 (Int32.toInt_inj.mp q)
      have d2 : ¬ (la.toInt < (0 : Int32).toInt) := mt Int32.lt_iff_toInt_lt.mpr c2
      have d3 : ¬ (la.toInt < tl.toInt) := mt Int32.lt_iff_toInt_lt.mpr c3
      omega
     obtain ⟨v114, T114, L114, hQ114, X114, st114⟩ := o_callS X108 hx hZ e108 hown (o_m hw 150 rfl) (o_m hw 151 rfl) (by decide) (o_m hw 152 rfl) (o_m hw 9 rfl) (o_place l Z a0 hw tm L (0 : Int32) tl (0 : Int32) time xs h0 At1 q109 q110 q111 q112 q113) (g := (o_f8 m 83 pp time (0 : Int32) [(.long time), (.int (0 : Int32)), (.int tl), (.int (0 : Int32)), (.ref tm), (.ref pp)])) rfl (by rw [hml]; rfl) rfl (argsL := [(.ref tm), (.int (0 : Int32)), (.int tl), (.int (0 : Int32)), (.long time)]) (rest := [(.ref pp)]) rfl (lenOf o_pd19 rfl) rfl (hb hby o_d12_83) (o_b rfl) (o_b rfl) (o_b rfl) (o_b rfl)
     obtain ⟨r114, rfl, rfl, e114, u114, v114x, w114⟩ := hQ114
     rw [List.append_nil] at X114
     refine o_q T114 (o_f8 m 86 pp time (0 : Int32) [(.int r114), (.ref pp)]) st114 ?_
     refine o_pF X114 hx hZ e114 hby (ty := .int) hown (o_m hw 148 rfl) F1_lastAt Ep1 (Or.inl (o_m hw 149 rfl)) (o_m hw 8 rfl) (by decide) rfl rfl o_d12_86 fun T115 h115 X115 e115 W115 => ?_
     have Fw115 := F1_lastAt.same W115
     have N_115 := Fr.snoc X115 (Fr.nil _) gp1
     have Y116 := Ep1.wr W115
     have Y117 := Er1.wr W115
     have Y118 := Ew1.wr W115
     have Y119 := F1_cpus.other W115 (o_sn (Or.inr (o_m hw 41 rfl)) (Or.inl (o_m hw 149 rfl)))
     have Y120 := F1_times.other W115 (o_sn (Or.inl (o_m hw 44 rfl)) (Or.inl (o_m hw 149 rfl)))
     have Y121 := F1_free.other W115 (o_sn (Or.inl (o_m hw 47 rfl)) (Or.inl (o_m hw 149 rfl)))
     have Y122 := F1_head.other W115 (o_sn (Or.inl (o_m hw 95 rfl)) (Or.inl (o_m hw 149 rfl)))
     have Y123 := F1_tail.other W115 (o_sn (Or.inl (o_m hw 49 rfl)) (Or.inl (o_m hw 149 rfl)))
     have Y125 := F1_runs.other W115 (o_sn (Or.inr (o_m hw 26 rfl)) (Or.inl (o_m hw 149 rfl)))
     have Y126 := F1_firstKnown.other W115 (o_sn (Or.inl (o_m hw 66 rfl)) (Or.inl (o_m hw 149 rfl)))
     have Y127 := F1_watcher.other W115 (o_sn (Or.inl (o_m hw 39 rfl)) (Or.inl (o_m hw 149 rfl)))
     have Y128 := F1_watchedAs.other W115 (o_sn (Or.inl (o_m hw 68 rfl)) (Or.inl (o_m hw 149 rfl)))
     have Y129 := F1_changes.other W115 (o_sn (Or.inl (o_m hw 80 rfl)) (Or.inl (o_m hw 149 rfl)))
     have Y130 := F1_merged.other W115 (o_sn (Or.inl (o_m hw 177 rfl)) (Or.inl (o_m hw 149 rfl)))
     have Y131 := F1_gaveBack.other W115 (o_sn (Or.inl (o_m hw 179 rfl)) (Or.inl (o_m hw 149 rfl)))
     have Y132 := F1_recent.other W115 (o_sn (Or.inr (o_m hw 35 rfl)) (Or.inl (o_m hw 149 rfl)))
     have Y133 := Fn1.other W115 (Or.inl (Ne.symm ne2))
     have Y134 := At1.other W115 (Ne.symm ne3)
     have Y135 := Af1.other W115 (Ne.symm ne5)
     have Y136 := Ar1.other W115 (Ne.symm ne7)
     refine o_q T115 (o_f8 m 90 pp time (0 : Int32) [(.ref pp)]) (fun _ k9 => XS.aloadN X115.here hx rfl (hb hby o_d12_89) rfl rfl k9) ?_
     refine o_gF X115 hx hZ e115 hby hown (o_m hw 148 rfl) Fw115 o_d12_90 fun T137 X137 e137 => ?_
     have hP138 : o_Pr Z n0 pp rc ru wa tm fr tl r114 L ch gb xs fs rs h115 := ⟨Y116, Y117, Y118, Y119, Y120, Y121, Y122, Y123, Fw115, Y125, Y126, Y127, Y128, Y129, Y130, Y131, Y132, Y133, Y134, Y135, Y136, nt1, wl1, gp1, gt1, gf1, gr1, gu1⟩
     have q139 : 0 ≤ r114.toInt := by
      have r1 := rng32 r114
      have k2 : (1 : Int32).toInt = 1 := by decide
      have r3 := rng32 tl
      have r4 := rng32 la
      have k5 : (0 : Int32).toInt = 0 := by decide
      have d0 : ¬ ((1 : Int32).toInt = tl.toInt) := fun q => c0 (Int32.toInt_inj.mp q)
      have d2 : ¬ (la.toInt < (0 : Int32).toInt) := mt Int32.lt_iff_toInt_lt.mpr c2
      have d3 : ¬ (la.toInt < tl.toInt) := mt Int32.lt_iff_toInt_lt.mpr c3
      omega
     have q140 : r114.toInt < tl.toInt := by
      have r1 := rng32 r114
      have k2 : (1 : Int32).toInt = 1 := by decide
      have r3 := rng32 tl
      have r4 := rng32 la
      have k5 : (0 : Int32).toInt = 0 := by decide
      have d0 : ¬ ((1 : Int32).toInt = tl.toInt) := fun q => c0 (Int32.toInt_inj.mp q)
      have d2 : ¬ (la.toInt < (0 : Int32).toInt) := mt Int32.lt_iff_toInt_lt.mpr c2
      have d3 : ¬ (la.toInt < tl.toInt) := mt Int32.lt_iff_toInt_lt.mpr c3
      omega
     refine o_retI X137 hx hlk hret (hb hby o_d12_93) ?_ (o_b rfl) (o_b rfl)
     rw [e137]
     exact ⟨r114, r114, rfl, N_115, hP138, q139, q140, w114⟩
theorem o_d11_0 : decode o_y4 0 = .ok (.aload_n 0, 1) := by decide +kernel
theorem o_d11_1 : decode o_y4 1 = .ok (.lload_n 1, 1) := by decide +kernel
theorem o_d11_2 : decode o_y4 2 = .ok (.invokevirtual 63, 3) := by decide +kernel
theorem o_pd8 : parseMethodDescriptor "(J)I" = some ⟨[.long], some .int⟩ := by decide +kernel
theorem o_d11_5 : decode o_y4 5 = .ok (.istore_n 3, 1) := by decide +kernel
theorem o_d11_6 : decode o_y4 6 = .ok (.aload_n 0, 1) := by decide +kernel
theorem o_d11_7 : decode o_y4 7 = .ok (.getfield 46, 3) := by decide +kernel
theorem o_d11_10 : decode o_y4 10 = .ok (.iload_n 3, 1) := by decide +kernel
theorem o_d11_11 : decode o_y4 11 = .ok (.laload, 1) := by decide +kernel
theorem o_d11_12 : decode o_y4 12 = .ok (.lload_n 1, 1) := by decide +kernel
theorem o_d11_13 : decode o_y4 13 = .ok (.lcmp, 1) := by decide +kernel
theorem o_d11_14 : decode o_y4 14 = .ok (.ifCond .ne 5, 3) := by decide +kernel
theorem o_d11_17 : decode o_y4 17 = .ok (.iload_n 3, 1) := by decide +kernel
theorem o_d11_18 : decode o_y4 18 = .ok (.ireturn, 1) := by decide +kernel
theorem o_d11_19 : decode o_y4 19 = .ok (.aload_n 0, 1) := by decide +kernel
theorem o_d11_20 : decode o_y4 20 = .ok (.getfield 46, 3) := by decide +kernel
theorem o_d11_23 : decode o_y4 23 = .ok (.iload_n 3, 1) := by decide +kernel
theorem o_d11_24 : decode o_y4 24 = .ok (.iconst 1, 1) := by decide +kernel
theorem o_d11_25 : decode o_y4 25 = .ok (.iadd, 1) := by decide +kernel
theorem o_d11_26 : decode o_y4 26 = .ok (.aload_n 0, 1) := by decide +kernel
theorem o_d11_27 : decode o_y4 27 = .ok (.getfield 46, 3) := by decide +kernel
theorem o_d11_30 : decode o_y4 30 = .ok (.iload_n 3, 1) := by decide +kernel
theorem o_d11_31 : decode o_y4 31 = .ok (.iconst 2, 1) := by decide +kernel
theorem o_d11_32 : decode o_y4 32 = .ok (.iadd, 1) := by decide +kernel
theorem o_d11_33 : decode o_y4 33 = .ok (.aload_n 0, 1) := by decide +kernel
theorem o_d11_34 : decode o_y4 34 = .ok (.getfield 53, 3) := by decide +kernel
theorem o_d11_37 : decode o_y4 37 = .ok (.iload_n 3, 1) := by decide +kernel
theorem o_d11_38 : decode o_y4 38 = .ok (.isub, 1) := by decide +kernel
theorem o_d11_39 : decode o_y4 39 = .ok (.iconst 1, 1) := by decide +kernel
theorem o_d11_40 : decode o_y4 40 = .ok (.isub, 1) := by decide +kernel
theorem o_d11_41 : decode o_y4 41 = .ok (.invokestatic 244, 3) := by decide +kernel
theorem o_d11_44 : decode o_y4 44 = .ok (.aload_n 0, 1) := by decide +kernel
theorem o_d11_45 : decode o_y4 45 = .ok (.getfield 49, 3) := by decide +kernel
theorem o_d11_48 : decode o_y4 48 = .ok (.iload_n 3, 1) := by decide +kernel
theorem o_d11_49 : decode o_y4 49 = .ok (.iconst 1, 1) := by decide +kernel
theorem o_d11_50 : decode o_y4 50 = .ok (.iadd, 1) := by decide +kernel
theorem o_d11_51 : decode o_y4 51 = .ok (.aload_n 0, 1) := by decide +kernel
theorem o_d11_52 : decode o_y4 52 = .ok (.getfield 49, 3) := by decide +kernel
theorem o_d11_55 : decode o_y4 55 = .ok (.iload_n 3, 1) := by decide +kernel
theorem o_d11_56 : decode o_y4 56 = .ok (.iconst 2, 1) := by decide +kernel
theorem o_d11_57 : decode o_y4 57 = .ok (.iadd, 1) := by decide +kernel
theorem o_d11_58 : decode o_y4 58 = .ok (.aload_n 0, 1) := by decide +kernel
theorem o_d11_59 : decode o_y4 59 = .ok (.getfield 53, 3) := by decide +kernel
theorem o_d11_62 : decode o_y4 62 = .ok (.iload_n 3, 1) := by decide +kernel
theorem o_d11_63 : decode o_y4 63 = .ok (.isub, 1) := by decide +kernel
theorem o_d11_64 : decode o_y4 64 = .ok (.iconst 1, 1) := by decide +kernel
theorem o_d11_65 : decode o_y4 65 = .ok (.isub, 1) := by decide +kernel
theorem o_d11_66 : decode o_y4 66 = .ok (.invokestatic 244, 3) := by decide +kernel
theorem o_d11_69 : decode o_y4 69 = .ok (.aload_n 0, 1) := by decide +kernel
theorem o_d11_70 : decode o_y4 70 = .ok (.getfield 46, 3) := by decide +kernel
theorem o_d11_73 : decode o_y4 73 = .ok (.iload_n 3, 1) := by decide +kernel
theorem o_d11_74 : decode o_y4 74 = .ok (.iconst 1, 1) := by decide +kernel
theorem o_d11_75 : decode o_y4 75 = .ok (.iadd, 1) := by decide +kernel
theorem o_d11_76 : decode o_y4 76 = .ok (.lload_n 1, 1) := by decide +kernel
theorem o_d11_77 : decode o_y4 77 = .ok (.lastore, 1) := by decide +kernel
theorem o_d11_78 : decode o_y4 78 = .ok (.aload_n 0, 1) := by decide +kernel
theorem o_d11_79 : decode o_y4 79 = .ok (.getfield 49, 3) := by decide +kernel
theorem o_d11_82 : decode o_y4 82 = .ok (.iload_n 3, 1) := by decide +kernel
theorem o_d11_83 : decode o_y4 83 = .ok (.iconst 1, 1) := by decide +kernel
theorem o_d11_84 : decode o_y4 84 = .ok (.iadd, 1) := by decide +kernel
theorem o_d11_85 : decode o_y4 85 = .ok (.aload_n 0, 1) := by decide +kernel
theorem o_d11_86 : decode o_y4 86 = .ok (.getfield 49, 3) := by decide +kernel
theorem o_d11_89 : decode o_y4 89 = .ok (.iload_n 3, 1) := by decide +kernel
theorem o_d11_90 : decode o_y4 90 = .ok (.iaload, 1) := by decide +kernel
theorem o_d11_91 : decode o_y4 91 = .ok (.iastore, 1) := by decide +kernel
theorem o_d11_92 : decode o_y4 92 = .ok (.aload_n 0, 1) := by decide +kernel
theorem o_d11_93 : decode o_y4 93 = .ok (.dup, 1) := by decide +kernel
theorem o_d11_94 : decode o_y4 94 = .ok (.getfield 53, 3) := by decide +kernel
theorem o_d11_97 : decode o_y4 97 = .ok (.iconst 1, 1) := by decide +kernel
theorem o_d11_98 : decode o_y4 98 = .ok (.iadd, 1) := by decide +kernel
theorem o_d11_99 : decode o_y4 99 = .ok (.putfield 53, 3) := by decide +kernel
theorem o_d11_102 : decode o_y4 102 = .ok (.aload_n 0, 1) := by decide +kernel
theorem o_d11_103 : decode o_y4 103 = .ok (.getfield 14, 3) := by decide +kernel
theorem o_d11_106 : decode o_y4 106 = .ok (.iload_n 3, 1) := by decide +kernel
theorem o_d11_107 : decode o_y4 107 = .ok (.iconst 1, 1) := by decide +kernel
theorem o_d11_108 : decode o_y4 108 = .ok (.iadd, 1) := by decide +kernel
theorem o_d11_109 : decode o_y4 109 = .ok (.invokevirtual 309, 3) := by decide +kernel
theorem o_d13_0 : decode o_y5 0 = .ok (.aload_n 0, 1) := by decide +kernel
theorem o_d13_1 : decode o_y5 1 = .ok (.getfield 15, 3) := by decide +kernel
theorem o_d13_4 : decode o_y5 4 = .ok (.ifnonnull 4, 3) := by decide +kernel
theorem o_d13_7 : decode o_y5 7 = .ok (.return_, 1) := by decide +kernel
theorem o_pn13 : plainFor (⟨o_n3, "inserted", "(I)V"⟩ : MethodName) = true := plainFor_of_name (by first | (simp [plainName, overriddenIn]; done) | decide +kernel)
set_option maxRecDepth 65536 in
set_option maxHeartbeats 40000000 in
theorem o_k13_3 (l : Launch) (Z : State) (a0 : Array Value) (hw : ∀ d ∈ tables_1, d.before a0 Z = true) (p0 : Addr) (p1 : Int32) (h0 : Heap) (H0 : Fld Z h0 p0 o_n3 "nodes" "[[J" .null) :
  o_C l (⟨o_n3, "inserted", "(I)V"⟩ : MethodName) o_y5 4 none (o_R 0 0 0 0) Z h0 #[(.ref p0), (.int p1)] (o_P none h0) := by
 refine o_body o_pn13 ?_
 intro p e s m below meth c s₁ hx hby hml hZ hown hnm hret hlk X0 e0
 refine o_cast (f' := (o_f9 m 0 p0 p1 [])) (by first | (simp [entryFrame, mkF, argsToLocals, Value.category, maxLocals]; done) | rfl) ?_
 refine o_q s₁ (o_f9 m 1 p0 p1 [(.ref p0)]) (fun _ k9 => XS.aloadN X0.here hx rfl (hb hby o_d13_0) rfl rfl k9) ?_
 refine o_gF X0 hx hZ e0 hby hown (o_m hw 105 rfl) H0 o_d13_1 fun T1 X1 e1 => ?_
 refine o_q T1 (o_f9 m 7 p0 p1 []) (fun _ k9 => XS.ifnonnullNo X1.here hx rfl (hb hby o_d13_4) rfl k9) ?_
 exact o_retV X1 hx hlk hret (hb hby o_d13_7) ⟨rfl, rfl, e1⟩ (by decide) (by decide)
theorem o_pd3 : parseMethodDescriptor "(I)V" = some ⟨[.int], none⟩ := by decide +kernel
theorem o_d11_112 : decode o_y4 112 = .ok (.iload_n 3, 1) := by decide +kernel
theorem o_d11_113 : decode o_y4 113 = .ok (.iconst 1, 1) := by decide +kernel
theorem o_d11_114 : decode o_y4 114 = .ok (.iadd, 1) := by decide +kernel
theorem o_d11_115 : decode o_y4 115 = .ok (.ireturn, 1) := by decide +kernel
theorem o_pn11 : plainFor (⟨o_n1, "split", "(J)I"⟩ : MethodName) = true := plainFor_of_name (by first | (simp [plainName, overriddenIn]; done) | decide +kernel)
set_option maxRecDepth 65536 in
set_option maxHeartbeats 40000000 in
theorem o_split (l : Launch) (Z : State) (a0 : Array Value) (hw : ∀ d ∈ tables_1, d.before a0 Z = true) (n0 : Nat) (pp rc ru wa tm fr : Addr) (tl la L : Int32) (ch gb : Int64) (xs : Nat → Int64) (fs : Nat → Int32) (rs : Nat → Int64) (time : Int64) (h0 : Heap) (hP : o_Pr Z n0 pp rc ru wa tm fr tl la L ch gb xs fs rs h0) (i1 : 1 ≤ tl.toInt) (i2 : tl.toInt ≤ L.toInt) (i3 : L.toInt ≤ 32) (i4 : tl.toInt + 1 ≤ L.toInt) :
  o_C l (⟨o_n1, "split", "(J)I"⟩ : MethodName) o_y4 4 (some .int) (o_R 3 0 0 49) Z h0 #[(.ref pp), (.long time)] (fun v h Ls => ∃ (r tl' la' : Int32) (xs' : Nat → Int64) (fs' : Nat → Int32), v = some (.int r) ∧ Fr n0 Ls ∧ o_Pr Z n0 pp rc ru wa tm fr tl' la' L ch gb xs' fs' rs h ∧ 0 ≤ r.toInt ∧ r.toInt < tl'.toInt ∧ tl.toInt ≤ tl'.toInt ∧ tl'.toInt ≤ tl.toInt + 1 ∧ (∀ i, i < tl'.toNatClampNeg → ∃ k, k < tl.toNatClampNeg ∧ fs' i = fs k) ∧ xs' 0 = xs 0 ∧ (xs (tl.toNatClampNeg - 1) = (9223372036854775807 : Int64) → ¬ time < xs 0 → xs' (tl'.toNatClampNeg - 1) = (9223372036854775807 : Int64) ∧ fs' (tl'.toNatClampNeg - 1) = fs (tl.toNatClampNeg - 1) ∧ ∀ i, i + 1 < tl'.toNatClampNeg → ∃ k, k + 1 < tl.toNatClampNeg ∧ fs' i = fs k) ∧ (tl.toInt = 1 → (xs 0 = time ∧ r.toInt = 0 ∧ tl'.toInt = 1 ∧ xs' = xs ∧ fs' = fs) ∨ (¬ xs 0 = time ∧ r.toInt = 1 ∧ tl'.toInt = 2 ∧ xs' 1 = time ∧ fs' 0 = fs 0 ∧ fs' 1 = fs 0))) := by
 refine o_body o_pn11 ?_
 intro p e s m below meth c s₁ hx hby hml hZ hown hnm hret hlk X0 e0
 refine o_cast (f' := (o_f7 m 0 pp time [])) (by first | (simp [entryFrame, mkF, argsToLocals, Value.category, maxLocals]; done) | rfl) ?_
 obtain ⟨Ep1, Er1, Ew1, F1_cpus, F1_times, F1_free, F1_head, F1_tail, F1_lastAt, F1_runs, F1_firstKnown, F1_watcher, F1_watchedAs, F1_changes, F1_merged, F1_gaveBack, F1_recent, Fn1, At1, Af1, Ar1, nt1, wl1, gp1, gt1, gf1, gr1, gu1⟩ := hP
 refine o_q s₁ (o_f7 m 1 pp time [(.ref pp)]) (fun _ k9 => XS.aloadN X0.here hx rfl (hb hby o_d11_0) rfl rfl k9) ?_
 refine o_q s₁ (o_f7 m 2 pp time [(.long time), (.ref pp)]) (fun _ k9 => XS.lloadN X0.here hx rfl (hb hby o_d11_1) rfl k9) ?_
 have q16 : 1 ≤ tl.toInt := by
  have r1 := rng32 tl
  omega
 have q17 : tl.toInt ≤ L.toInt := by
  have r1 := rng32 tl
  have r2 := rng32 L
  omega
 have q18 : L.toInt ≤ 32 := by
  have r1 := rng32 L
  omega
 have hP19 : o_Pr Z n0 pp rc ru wa tm fr tl la L ch gb xs fs rs h0 := ⟨Ep1, Er1, Ew1, F1_cpus, F1_times, F1_free, F1_head, F1_tail, F1_lastAt, F1_runs, F1_firstKnown, F1_watcher, F1_watchedAs, F1_changes, F1_merged, F1_gaveBack, F1_recent, Fn1, At1, Af1, Ar1, nt1, wl1, gp1, gt1, gf1, gr1, gu1⟩
 obtain ⟨v20, T20, L20, hQ20, X20, st20⟩ := o_callP X0 hx hZ e0 hown (o_m hw 90 rfl) (o_m hw 91 rfl) (o_m hw 8 rfl) (o_m hw 92 rfl) (by decide) (a := pp) Ep1 (o_m hw 93 rfl) (o_m hw 9 rfl) (o_seg l Z a0 hw n0 pp rc ru wa tm fr tl la L ch gb xs fs rs time h0 hP19 q16 q17 q18) (g := (o_f7 m 2 pp time [(.long time), (.ref pp)])) rfl (by rw [hml]; rfl) rfl (argsL := [(.long time)]) (rest := []) rfl (lenOf o_pd8 rfl) rfl (hb hby o_d11_2) (o_b rfl) (o_b rfl) (o_b rfl) (o_b rfl)
 obtain ⟨h20, e20⟩ : ∃ z, T20.heap = z := ⟨_, rfl⟩
 rw [e20] at hQ20
 obtain ⟨r20, la20, rfl, N20, hR20, sa20, sb20, sc20⟩ := hQ20
 have N_20 := Fr.app (Fr.nil _) N20
 obtain ⟨Ep21, Er21, Ew21, F21_cpus, F21_times, F21_free, F21_head, F21_tail, F21_lastAt, F21_runs, F21_firstKnown, F21_watcher, F21_watchedAs, F21_changes, F21_merged, F21_gaveBack, F21_recent, Fn21, At21, Af21, Ar21, nt21, wl21, gp21, gt21, gf21, gr21, gu21⟩ := hR20
 have ne22 : o_ne pp ru := Ep21.ne Er21 (by decide)
 have ne23 : o_ne pp tm := At21.neExa Ep21 (o_m hw 8 rfl)
 have ne24 : o_ne ru tm := At21.neExa Er21 (o_m hw 17 rfl)
 have ne25 : o_ne pp fr := Af21.neExa Ep21 (o_m hw 8 rfl)
 have ne26 : o_ne ru fr := Af21.neExa Er21 (o_m hw 17 rfl)
 have ne27 : o_ne pp rc := Ar21.neExa Ep21 (o_m hw 8 rfl)
 have ne34 : o_ne tm fr := At21.ne Af21 (by intro q; cases q)
 have ne35 : o_ne fr rc := Af21.ne Ar21 (by intro q; cases q)
 refine o_q T20 (o_f7 m 5 pp time [(.int r20)]) st20 ?_
 refine o_q T20 (o_f8 m 6 pp time r20 []) (fun _ k9 => XS.istoreN X20.here hx rfl (hb hby o_d11_5) rfl (l' := (o_t8 pp time r20)) rfl k9) ?_
 refine o_q T20 (o_f8 m 7 pp time r20 [(.ref pp)]) (fun _ k9 => XS.aloadN X20.here hx rfl (hb hby o_d11_6) rfl rfl k9) ?_
 refine o_gF X20 hx hZ e20 hby hown (o_m hw 43 rfl) F21_times o_d11_7 fun T36 X36 e36 => ?_
 refine o_q T36 (o_f8 m 11 pp time r20 [(.int r20), (.ref tm)]) (fun _ k9 => XS.iloadN X36.here hx rfl (hb hby o_d11_10) rfl k9) ?_
 have hin37 : ¬ (r20 < (0 : Int32)) ∧ r20 < L := by
  have r1 := rng32 r20
  have r2 := rng32 L
  have k3 : (0 : Int32).toInt = 0 := by decide
  rw [Int32.lt_iff_toInt_lt, Int32.lt_iff_toInt_lt]
  omega
 refine o_dJ X36 hx hZ e36 hby At21 hin37 o_d11_11 ?_
 refine o_q T36 (o_f8 m 13 pp time r20 [(.long time), (.long (xs r20.toNatClampNeg))]) (fun _ k9 => XS.lloadN X36.here hx rfl (hb hby o_d11_12) rfl k9) ?_
 refine o_q T36 (o_f8 m 14 pp time r20 [(.int (lcmpW (xs r20.toNatClampNeg) time))]) (fun _ k9 => XS.lcmp X36.here hx rfl (hb hby o_d11_13) rfl k9) ?_
 by_cases c0 : (xs r20.toNatClampNeg) = time
 ·refine o_fN X36 hx hby o_d11_14 ((if0 _ _).trans (teq ((lw_eq _ _).mpr c0)).2) ?_
  refine o_q T36 (o_f8 m 18 pp time r20 [(.int r20)]) (fun _ k9 => XS.iloadN X36.here hx rfl (hb hby o_d11_17) rfl k9) ?_
  have hP38 : o_Pr Z n0 pp rc ru wa tm fr tl la20 L ch gb xs fs rs h20 := ⟨Ep21, Er21, Ew21, F21_cpus, F21_times, F21_free, F21_head, F21_tail, F21_lastAt, F21_runs, F21_firstKnown, F21_watcher, F21_watchedAs, F21_changes, F21_merged, F21_gaveBack, F21_recent, Fn21, At21, Af21, Ar21, nt21, wl21, gp21, gt21, gf21, gr21, gu21⟩
  have q39 : tl.toInt ≤ tl.toInt := by
   omega
  have q40 : tl.toInt ≤ tl.toInt + 1 := by
   omega
  have ph41 : tl.toInt = 1 → (xs 0 = time ∧ r20.toInt = 0 ∧ tl.toInt = 1 ∧ xs = xs ∧ fs = fs) ∨ (¬ xs 0 = time ∧ r20.toInt = 1 ∧ tl.toInt = 2 ∧ xs 1 = time ∧ fs 0 = fs 0 ∧ fs 1 = fs 0) := fun h1 => by
   have z0 : r20.toInt = 0 := by omega
   have z1 : r20.toNatClampNeg = 0 := by have := o_nat r20 (by omega); omega
   have z2 := c0
   rw [z1] at z2
   exact Or.inl ⟨z2, z0, h1, rfl, rfl⟩
  refine o_retI X36 hx hlk hret (hb hby o_d11_18) ?_ (o_b rfl) (o_b rfl)
  rw [e36]
  exact ⟨r20, tl, la20, xs, fs, rfl, N_20, hP38, sa20, sb20, q39, q40, (fun i hi => ⟨i, hi, rfl⟩), rfl, (fun q _ => ⟨q, rfl, fun i hi => ⟨i, hi, rfl⟩⟩), ph41⟩
 ·refine o_fY 19 X36 hx hby o_d11_14 ((if0 _ _).trans (feq (mt (lw_eq _ _).mp c0)).2) ?_
  refine o_q T36 (o_f8 m 20 pp time r20 [(.ref pp)]) (fun _ k9 => XS.aloadN X36.here hx rfl (hb hby o_d11_19) rfl rfl k9) ?_
  refine o_gF X36 hx hZ e36 hby hown (o_m hw 43 rfl) F21_times o_d11_20 fun T42 X42 e42 => ?_
  refine o_q T42 (o_f8 m 24 pp time r20 [(.int r20), (.ref tm)]) (fun _ k9 => XS.iloadN X42.here hx rfl (hb hby o_d11_23) rfl k9) ?_
  refine o_iC (1 : Int32) X42 hx hby o_d11_24 rfl ?_
  refine o_q T42 (o_f8 m 26 pp time r20 [(.int (r20 + (1 : Int32))), (.ref tm)]) (fun _ k9 => XS.iadd X42.here hx rfl (hb hby o_d11_25) rfl k9) ?_
  refine o_q T42 (o_f8 m 27 pp time r20 [(.ref pp), (.int (r20 + (1 : Int32))), (.ref tm)]) (fun _ k9 => XS.aloadN X42.here hx rfl (hb hby o_d11_26) rfl rfl k9) ?_
  refine o_gF X42 hx hZ e42 hby hown (o_m hw 43 rfl) F21_times o_d11_27 fun T43 X43 e43 => ?_
  refine o_q T43 (o_f8 m 31 pp time r20 [(.int r20), (.ref tm), (.int (r20 + (1 : Int32))), (.ref tm)]) (fun _ k9 => XS.iloadN X43.here hx rfl (hb hby o_d11_30) rfl k9) ?_
  refine o_iC (2 : Int32) X43 hx hby o_d11_31 rfl ?_
  refine o_q T43 (o_f8 m 33 pp time r20 [(.int (r20 + (2 : Int32))), (.ref tm), (.int (r20 + (1 : Int32))), (.ref tm)]) (fun _ k9 => XS.iadd X43.here hx rfl (hb hby o_d11_32) rfl k9) ?_
  refine o_q T43 (o_f8 m 34 pp time r20 [(.ref pp), (.int (r20 + (2 : Int32))), (.ref tm), (.int (r20 + (1 : Int32))), (.ref tm)]) (fun _ k9 => XS.aloadN X43.here hx rfl (hb hby o_d11_33) rfl rfl k9) ?_
  refine o_gF X43 hx hZ e43 hby hown (o_m hw 48 rfl) F21_tail o_d11_34 fun T44 X44 e44 => ?_
  refine o_q T44 (o_f8 m 38 pp time r20 [(.int r20), (.int tl), (.int (r20 + (2 : Int32))), (.ref tm), (.int (r20 + (1 : Int32))), (.ref tm)]) (fun _ k9 => XS.iloadN X44.here hx rfl (hb hby o_d11_37) rfl k9) ?_
  refine o_q T44 (o_f8 m 39 pp time r20 [(.int (tl - r20)), (.int (r20 + (2 : Int32))), (.ref tm), (.int (r20 + (1 : Int32))), (.ref tm)]) (fun _ k9 => XS.isub X44.here hx rfl (hb hby o_d11_38) rfl k9) ?_
  refine o_iC (1 : Int32) X44 hx hby o_d11_39 rfl ?_
  refine o_q T44 (o_f8 m 41 pp time r20 [(.int ((tl - r20) - (1 : Int32))), (.int (r20 + (2 : Int32))), (.ref tm), (.int (r20 + (1 : Int32))), (.ref tm)]) (fun _ k9 => XS.isub X44.here hx rfl (hb hby o_d11_40) rfl k9) ?_
  have u1_45 : 0 ≤ ((r20 + (1 : Int32))).toInt := by
   have r1 := rng32 r20
   have k2 : (1 : Int32).toInt = 1 := by decide
   have e3 := c_iadd (r20) ((1 : Int32))
   have r3 := rng32 ((r20 + (1 : Int32)))
   rw [show (1 : Int32).toInt = 1 from by decide] at e3
   omega
  have u2_45 : 0 ≤ ((r20 + (2 : Int32))).toInt := by
   have r1 := rng32 r20
   have k2 : (2 : Int32).toInt = 2 := by decide
   have e3 := c_iadd (r20) ((2 : Int32))
   have r3 := rng32 ((r20 + (2 : Int32)))
   rw [show (2 : Int32).toInt = 2 from by decide] at e3
   omega
  have u3_45 : 0 ≤ (((tl - r20) - (1 : Int32))).toInt := by
   have r1 := rng32 tl
   have r2 := rng32 r20
   have e3 := c_isub (tl) (r20)
   have r3 := rng32 ((tl - r20))
   have k4 : (1 : Int32).toInt = 1 := by decide
   have e5 := c_isub ((tl - r20)) ((1 : Int32))
   have r5 := rng32 (((tl - r20) - (1 : Int32)))
   rw [show (1 : Int32).toInt = 1 from by decide] at e5
   omega
  have u4_45 : ((r20 + (1 : Int32))).toInt + (((tl - r20) - (1 : Int32))).toInt ≤ L.toInt := by
   have r1 := rng32 r20
   have k2 : (1 : Int32).toInt = 1 := by decide
   have e3 := c_iadd (r20) ((1 : Int32))
   have r3 := rng32 ((r20 + (1 : Int32)))
   rw [show (1 : Int32).toInt = 1 from by decide] at e3
   have r4 := rng32 tl
   have e5 := c_isub (tl) (r20)
   have r5 := rng32 ((tl - r20))
   have e6 := c_isub ((tl - r20)) ((1 : Int32))
   have r6 := rng32 (((tl - r20) - (1 : Int32)))
   rw [show (1 : Int32).toInt = 1 from by decide] at e6
   have r7 := rng32 L
   omega
  have u5_45 : ((r20 + (2 : Int32))).toInt + (((tl - r20) - (1 : Int32))).toInt ≤ L.toInt := by
   have r1 := rng32 r20
   have k2 : (2 : Int32).toInt = 2 := by decide
   have e3 := c_iadd (r20) ((2 : Int32))
   have r3 := rng32 ((r20 + (2 : Int32)))
   rw [show (2 : Int32).toInt = 2 from by decide] at e3
   have r4 := rng32 tl
   have e5 := c_isub (tl) (r20)
   have r5 := rng32 ((tl - r20))
   have k6 : (1 : Int32).toInt = 1 := by decide
   have e7 := c_isub ((tl - r20)) ((1 : Int32))
   have r7 := rng32 (((tl - r20) - (1 : Int32)))
   rw [show (1 : Int32).toInt = 1 from by decide] at e7
   have r8 := rng32 L
   omega
  obtain ⟨T45, h45, L45, X45, e45, N_45, K45, A45, st45⟩ := o_cp X44 hx hZ hown (o_m hw 96 rfl) (o_m hw 99 rfl) (o_m hw 97 rfl) (o_m hw 98 rfl) e44 At21 At21 rfl u1_45 u2_45 u3_45 u4_45 u5_45 N_20 gt21 (g := (o_f8 m 41 pp time r20 [(.int ((tl - r20) - (1 : Int32))), (.int (r20 + (2 : Int32))), (.ref tm), (.int (r20 + (1 : Int32))), (.ref tm)])) rfl (by rw [hml]; rfl) rfl rfl (hb hby o_d11_41) (o_b rfl) (o_b rfl)
  obtain ⟨f45, d_f45⟩ : ∃ z : Nat → Int64, z = (fun i => if ((r20 + (2 : Int32))).toNatClampNeg ≤ i ∧ i < ((r20 + (2 : Int32))).toNatClampNeg + (((tl - r20) - (1 : Int32))).toNatClampNeg then xs (((r20 + (1 : Int32))).toNatClampNeg + (i - ((r20 + (2 : Int32))).toNatClampNeg)) else xs i) := ⟨_, rfl⟩
  replace A45 : o_LA Z h45 tm L f45 := A45.congr fun i _ => by rw [d_f45]; exact (apply_ite Value.long _ _ _).symm
  have Y46 := Ep21.keep K45
  have Y47 := Er21.keep K45
  have Y48 := Ew21.keep K45
  have Y49 := F21_cpus.keep K45 (ninS ne23 nin0)
  have Y50 := F21_times.keep K45 (ninS ne23 nin0)
  have Y51 := F21_free.keep K45 (ninS ne23 nin0)
  have Y52 := F21_head.keep K45 (ninS ne23 nin0)
  have Y53 := F21_tail.keep K45 (ninS ne23 nin0)
  have Y54 := F21_lastAt.keep K45 (ninS ne23 nin0)
  have Y55 := F21_runs.keep K45 (ninS ne23 nin0)
  have Y56 := F21_firstKnown.keep K45 (ninS ne23 nin0)
  have Y57 := F21_watcher.keep K45 (ninS ne23 nin0)
  have Y58 := F21_watchedAs.keep K45 (ninS ne23 nin0)
  have Y59 := F21_changes.keep K45 (ninS ne23 nin0)
  have Y60 := F21_merged.keep K45 (ninS ne23 nin0)
  have Y61 := F21_gaveBack.keep K45 (ninS ne23 nin0)
  have Y62 := F21_recent.keep K45 (ninS ne23 nin0)
  have Y63 := Fn21.keep K45 (ninS ne24 nin0)
  have Y65 := Af21.keep K45 (ninS (Ne.symm ne34) nin0)
  have Y66 := Ar21.keep K45 (ninS (Ne.symm nt21) nin0)
  refine o_q T45 (o_f8 m 44 pp time r20 []) st45 ?_
  refine o_q T45 (o_f8 m 45 pp time r20 [(.ref pp)]) (fun _ k9 => XS.aloadN X45.here hx rfl (hb hby o_d11_44) rfl rfl k9) ?_
  refine o_gF X45 hx hZ e45 hby hown (o_m hw 46 rfl) Y51 o_d11_45 fun T67 X67 e67 => ?_
  refine o_q T67 (o_f8 m 49 pp time r20 [(.int r20), (.ref fr)]) (fun _ k9 => XS.iloadN X67.here hx rfl (hb hby o_d11_48) rfl k9) ?_
  refine o_iC (1 : Int32) X67 hx hby o_d11_49 rfl ?_
  refine o_q T67 (o_f8 m 51 pp time r20 [(.int (r20 + (1 : Int32))), (.ref fr)]) (fun _ k9 => XS.iadd X67.here hx rfl (hb hby o_d11_50) rfl k9) ?_
  refine o_q T67 (o_f8 m 52 pp time r20 [(.ref pp), (.int (r20 + (1 : Int32))), (.ref fr)]) (fun _ k9 => XS.aloadN X67.here hx rfl (hb hby o_d11_51) rfl rfl k9) ?_
  refine o_gF X67 hx hZ e67 hby hown (o_m hw 46 rfl) Y51 o_d11_52 fun T68 X68 e68 => ?_
  refine o_q T68 (o_f8 m 56 pp time r20 [(.int r20), (.ref fr), (.int (r20 + (1 : Int32))), (.ref fr)]) (fun _ k9 => XS.iloadN X68.here hx rfl (hb hby o_d11_55) rfl k9) ?_
  refine o_iC (2 : Int32) X68 hx hby o_d11_56 rfl ?_
  refine o_q T68 (o_f8 m 58 pp time r20 [(.int (r20 + (2 : Int32))), (.ref fr), (.int (r20 + (1 : Int32))), (.ref fr)]) (fun _ k9 => XS.iadd X68.here hx rfl (hb hby o_d11_57) rfl k9) ?_
  refine o_q T68 (o_f8 m 59 pp time r20 [(.ref pp), (.int (r20 + (2 : Int32))), (.ref fr), (.int (r20 + (1 : Int32))), (.ref fr)]) (fun _ k9 => XS.aloadN X68.here hx rfl (hb hby o_d11_58) rfl rfl k9) ?_
  refine o_gF X68 hx hZ e68 hby hown (o_m hw 48 rfl) Y53 o_d11_59 fun T69 X69 e69 => ?_
  refine o_q T69 (o_f8 m 63 pp time r20 [(.int r20), (.int tl), (.int (r20 + (2 : Int32))), (.ref fr), (.int (r20 + (1 : Int32))), (.ref fr)]) (fun _ k9 => XS.iloadN X69.here hx rfl (hb hby o_d11_62) rfl k9) ?_
  refine o_q T69 (o_f8 m 64 pp time r20 [(.int (tl - r20)), (.int (r20 + (2 : Int32))), (.ref fr), (.int (r20 + (1 : Int32))), (.ref fr)]) (fun _ k9 => XS.isub X69.here hx rfl (hb hby o_d11_63) rfl k9) ?_
  refine o_iC (1 : Int32) X69 hx hby o_d11_64 rfl ?_
  refine o_q T69 (o_f8 m 66 pp time r20 [(.int ((tl - r20) - (1 : Int32))), (.int (r20 + (2 : Int32))), (.ref fr), (.int (r20 + (1 : Int32))), (.ref fr)]) (fun _ k9 => XS.isub X69.here hx rfl (hb hby o_d11_65) rfl k9) ?_
  have u1_70 : 0 ≤ ((r20 + (1 : Int32))).toInt := by
   have r1 := rng32 r20
   have k2 : (1 : Int32).toInt = 1 := by decide
   have e3 := c_iadd (r20) ((1 : Int32))
   have r3 := rng32 ((r20 + (1 : Int32)))
   rw [show (1 : Int32).toInt = 1 from by decide] at e3
   omega
  have u2_70 : 0 ≤ ((r20 + (2 : Int32))).toInt := by
   have r1 := rng32 r20
   have k2 : (2 : Int32).toInt = 2 := by decide
   have e3 := c_iadd (r20) ((2 : Int32))
   have r3 := rng32 ((r20 + (2 : Int32)))
   rw [show (2 : Int32).toInt = 2 from by decide] at e3
   omega
  have u3_70 : 0 ≤ (((tl - r20) - (1 : Int32))).toInt := by
   have r1 := rng32 tl
   have r2 := rng32 r20
   have e3 := c_isub (tl) (r20)
   have r3 := rng32 ((tl - r20))
   have k4 : (1 : Int32).toInt = 1 := by decide
   have e5 := c_isub ((tl - r20)) ((1 : Int32))
   have r5 := rng32 (((tl - r20) - (1 : Int32)))
   rw [show (1 : Int32).toInt = 1 from by decide] at e5
   omega
  have u4_70 : ((r20 + (1 : Int32))).toInt + (((tl - r20) - (1 : Int32))).toInt ≤ L.toInt := by
   have r1 := rng32 r20
   have k2 : (1 : Int32).toInt = 1 := by decide
   have e3 := c_iadd (r20) ((1 : Int32))
   have r3 := rng32 ((r20 + (1 : Int32)))
   rw [show (1 : Int32).toInt = 1 from by decide] at e3
   have r4 := rng32 tl
   have e5 := c_isub (tl) (r20)
   have r5 := rng32 ((tl - r20))
   have e6 := c_isub ((tl - r20)) ((1 : Int32))
   have r6 := rng32 (((tl - r20) - (1 : Int32)))
   rw [show (1 : Int32).toInt = 1 from by decide] at e6
   have r7 := rng32 L
   omega
  have u5_70 : ((r20 + (2 : Int32))).toInt + (((tl - r20) - (1 : Int32))).toInt ≤ L.toInt := by
   have r1 := rng32 r20
   have k2 : (2 : Int32).toInt = 2 := by decide
   have e3 := c_iadd (r20) ((2 : Int32))
   have r3 := rng32 ((r20 + (2 : Int32)))
   rw [show (2 : Int32).toInt = 2 from by decide] at e3
   have r4 := rng32 tl
   have e5 := c_isub (tl) (r20)
   have r5 := rng32 ((tl - r20))
   have k6 : (1 : Int32).toInt = 1 := by decide
   have e7 := c_isub ((tl - r20)) ((1 : Int32))
   have r7 := rng32 (((tl - r20) - (1 : Int32)))
   rw [show (1 : Int32).toInt = 1 from by decide] at e7
   have r8 := rng32 L
   omega
  obtain ⟨T70, h70, L70, X70, e70, N_70, K70, A70, st70⟩ := o_cp X69 hx hZ hown (o_m hw 96 rfl) (o_m hw 99 rfl) (o_m hw 97 rfl) (o_m hw 98 rfl) e69 Y65 Y65 rfl u1_70 u2_70 u3_70 u4_70 u5_70 N_45 gf21 (g := (o_f8 m 66 pp time r20 [(.int ((tl - r20) - (1 : Int32))), (.int (r20 + (2 : Int32))), (.ref fr), (.int (r20 + (1 : Int32))), (.ref fr)])) rfl (by rw [hml]; rfl) rfl rfl (hb hby o_d11_66) (o_b rfl) (o_b rfl)
  obtain ⟨f70, d_f70⟩ : ∃ z : Nat → Int32, z = (fun i => if ((r20 + (2 : Int32))).toNatClampNeg ≤ i ∧ i < ((r20 + (2 : Int32))).toNatClampNeg + (((tl - r20) - (1 : Int32))).toNatClampNeg then fs (((r20 + (1 : Int32))).toNatClampNeg + (i - ((r20 + (2 : Int32))).toNatClampNeg)) else fs i) := ⟨_, rfl⟩
  replace A70 : o_IA Z h70 fr L f70 := A70.congr fun i _ => by rw [d_f70]; exact (apply_ite Value.int _ _ _).symm
  have Y71 := Y46.keep K70
  have Y72 := Y47.keep K70
  have Y73 := Y48.keep K70
  have Y74 := Y49.keep K70 (ninS ne25 nin0)
  have Y75 := Y50.keep K70 (ninS ne25 nin0)
  have Y76 := Y51.keep K70 (ninS ne25 nin0)
  have Y77 := Y52.keep K70 (ninS ne25 nin0)
  have Y78 := Y53.keep K70 (ninS ne25 nin0)
  have Y79 := Y54.keep K70 (ninS ne25 nin0)
  have Y80 := Y55.keep K70 (ninS ne25 nin0)
  have Y81 := Y56.keep K70 (ninS ne25 nin0)
  have Y82 := Y57.keep K70 (ninS ne25 nin0)
  have Y83 := Y58.keep K70 (ninS ne25 nin0)
  have Y84 := Y59.keep K70 (ninS ne25 nin0)
  have Y85 := Y60.keep K70 (ninS ne25 nin0)
  have Y86 := Y61.keep K70 (ninS ne25 nin0)
  have Y87 := Y62.keep K70 (ninS ne25 nin0)
  have Y88 := Y63.keep K70 (ninS ne26 nin0)
  have Y89 := A45.keep K70 (ninS ne34 nin0)
  have Y91 := Y66.keep K70 (ninS (Ne.symm ne35) nin0)
  refine o_q T70 (o_f8 m 69 pp time r20 []) st70 ?_
  refine o_q T70 (o_f8 m 70 pp time r20 [(.ref pp)]) (fun _ k9 => XS.aloadN X70.here hx rfl (hb hby o_d11_69) rfl rfl k9) ?_
  refine o_gF X70 hx hZ e70 hby hown (o_m hw 43 rfl) Y75 o_d11_70 fun T92 X92 e92 => ?_
  refine o_q T92 (o_f8 m 74 pp time r20 [(.int r20), (.ref tm)]) (fun _ k9 => XS.iloadN X92.here hx rfl (hb hby o_d11_73) rfl k9) ?_
  refine o_iC (1 : Int32) X92 hx hby o_d11_74 rfl ?_
  refine o_q T92 (o_f8 m 76 pp time r20 [(.int (r20 + (1 : Int32))), (.ref tm)]) (fun _ k9 => XS.iadd X92.here hx rfl (hb hby o_d11_75) rfl k9) ?_
  refine o_q T92 (o_f8 m 77 pp time r20 [(.long time), (.int (r20 + (1 : Int32))), (.ref tm)]) (fun _ k9 => XS.lloadN X92.here hx rfl (hb hby o_d11_76) rfl k9) ?_
  have hin93 : ¬ ((r20 + (1 : Int32)) < (0 : Int32)) ∧ (r20 + (1 : Int32)) < L := by
   have r1 := rng32 r20
   have k2 : (1 : Int32).toInt = 1 := by decide
   have e3 := c_iadd (r20) ((1 : Int32))
   have r3 := rng32 ((r20 + (1 : Int32)))
   rw [show (1 : Int32).toInt = 1 from by decide] at e3
   have r4 := rng32 L
   have k5 : (0 : Int32).toInt = 0 := by decide
   rw [Int32.lt_iff_toInt_lt, Int32.lt_iff_toInt_lt]
   omega
  refine o_tJ X92 hx hZ e92 hby Y89 hin93 o_d11_77 fun T94 h94 X94 e94 W94 A94 => ?_
  obtain ⟨f94, d_f94⟩ : ∃ z : Nat → Int64, z = (fun i => if i = ((r20 + (1 : Int32))).toNatClampNeg then time else f45 i) := ⟨_, rfl⟩
  rw [← d_f94] at A94
  have N_94 := Fr.snoc X94 N_70 gt21
  have Y95 := Y71.wr W94
  have Y96 := Y72.wr W94
  have Y97 := Y73.wr W94
  have Y98 := Y74.other W94 (Or.inl ne23)
  have Y99 := Y75.other W94 (Or.inl ne23)
  have Y100 := Y76.other W94 (Or.inl ne23)
  have Y101 := Y77.other W94 (Or.inl ne23)
  have Y102 := Y78.other W94 (Or.inl ne23)
  have Y103 := Y79.other W94 (Or.inl ne23)
  have Y104 := Y80.other W94 (Or.inl ne23)
  have Y105 := Y81.other W94 (Or.inl ne23)
  have Y106 := Y82.other W94 (Or.inl ne23)
  have Y107 := Y83.other W94 (Or.inl ne23)
  have Y108 := Y84.other W94 (Or.inl ne23)
  have Y109 := Y85.other W94 (Or.inl ne23)
  have Y110 := Y86.other W94 (Or.inl ne23)
  have Y111 := Y87.other W94 (Or.inl ne23)
  have Y112 := Y88.other W94 (Or.inl ne24)
  have Y114 := A70.other W94 (Ne.symm ne34)
  have Y115 := Y91.other W94 (Ne.symm nt21)
  refine o_q T94 (o_f8 m 79 pp time r20 [(.ref pp)]) (fun _ k9 => XS.aloadN X94.here hx rfl (hb hby o_d11_78) rfl rfl k9) ?_
  refine o_gF X94 hx hZ e94 hby hown (o_m hw 46 rfl) Y100 o_d11_79 fun T116 X116 e116 => ?_
  refine o_q T116 (o_f8 m 83 pp time r20 [(.int r20), (.ref fr)]) (fun _ k9 => XS.iloadN X116.here hx rfl (hb hby o_d11_82) rfl k9) ?_
  refine o_iC (1 : Int32) X116 hx hby o_d11_83 rfl ?_
  refine o_q T116 (o_f8 m 85 pp time r20 [(.int (r20 + (1 : Int32))), (.ref fr)]) (fun _ k9 => XS.iadd X116.here hx rfl (hb hby o_d11_84) rfl k9) ?_
  refine o_q T116 (o_f8 m 86 pp time r20 [(.ref pp), (.int (r20 + (1 : Int32))), (.ref fr)]) (fun _ k9 => XS.aloadN X116.here hx rfl (hb hby o_d11_85) rfl rfl k9) ?_
  refine o_gF X116 hx hZ e116 hby hown (o_m hw 46 rfl) Y100 o_d11_86 fun T117 X117 e117 => ?_
  refine o_q T117 (o_f8 m 90 pp time r20 [(.int r20), (.ref fr), (.int (r20 + (1 : Int32))), (.ref fr)]) (fun _ k9 => XS.iloadN X117.here hx rfl (hb hby o_d11_89) rfl k9) ?_
  have hin118 : ¬ (r20 < (0 : Int32)) ∧ r20 < L := by
   have r1 := rng32 r20
   have r2 := rng32 L
   have k3 : (0 : Int32).toInt = 0 := by decide
   rw [Int32.lt_iff_toInt_lt, Int32.lt_iff_toInt_lt]
   omega
  refine o_dI X117 hx hZ e117 hby Y114 hin118 o_d11_90 ?_
  have hin119 : ¬ ((r20 + (1 : Int32)) < (0 : Int32)) ∧ (r20 + (1 : Int32)) < L := by
   have r1 := rng32 r20
   have k2 : (1 : Int32).toInt = 1 := by decide
   have e3 := c_iadd (r20) ((1 : Int32))
   have r3 := rng32 ((r20 + (1 : Int32)))
   rw [show (1 : Int32).toInt = 1 from by decide] at e3
   have r4 := rng32 L
   have k5 : (0 : Int32).toInt = 0 := by decide
   rw [Int32.lt_iff_toInt_lt, Int32.lt_iff_toInt_lt]
   omega
  refine o_tI X117 hx hZ e117 hby Y114 hin119 o_d11_91 fun T120 h120 X120 e120 W120 A120 => ?_
  obtain ⟨f120, d_f120⟩ : ∃ z : Nat → Int32, z = (fun i => if i = ((r20 + (1 : Int32))).toNatClampNeg then (f70 r20.toNatClampNeg) else f70 i) := ⟨_, rfl⟩
  rw [← d_f120] at A120
  have N_120 := Fr.snoc X120 N_94 gf21
  have Y121 := Y95.wr W120
  have Y122 := Y96.wr W120
  have Y123 := Y97.wr W120
  have Y124 := Y98.other W120 (Or.inl ne25)
  have Y125 := Y99.other W120 (Or.inl ne25)
  have Y126 := Y100.other W120 (Or.inl ne25)
  have Y127 := Y101.other W120 (Or.inl ne25)
  have Y128 := Y102.other W120 (Or.inl ne25)
  have Y129 := Y103.other W120 (Or.inl ne25)
  have Y130 := Y104.other W120 (Or.inl ne25)
  have Y131 := Y105.other W120 (Or.inl ne25)
  have Y132 := Y106.other W120 (Or.inl ne25)
  have Y133 := Y107.other W120 (Or.inl ne25)
  have Y134 := Y108.other W120 (Or.inl ne25)
  have Y135 := Y109.other W120 (Or.inl ne25)
  have Y136 := Y110.other W120 (Or.inl ne25)
  have Y137 := Y111.other W120 (Or.inl ne25)
  have Y138 := Y112.other W120 (Or.inl ne26)
  have Y139 := A94.other W120 ne34
  have Y141 := Y115.other W120 (Ne.symm ne35)
  refine o_q T120 (o_f8 m 93 pp time r20 [(.ref pp)]) (fun _ k9 => XS.aloadN X120.here hx rfl (hb hby o_d11_92) rfl rfl k9) ?_
  refine o_q T120 (o_f8 m 94 pp time r20 [(.ref pp), (.ref pp)]) (fun _ k9 => XS.dup X120.here hx rfl (hb hby o_d11_93) rfl rfl k9) ?_
  refine o_gF X120 hx hZ e120 hby hown (o_m hw 48 rfl) Y128 o_d11_94 fun T142 X142 e142 => ?_
  refine o_iC (1 : Int32) X142 hx hby o_d11_97 rfl ?_
  refine o_q T142 (o_f8 m 99 pp time r20 [(.int (tl + (1 : Int32))), (.ref pp)]) (fun _ k9 => XS.iadd X142.here hx rfl (hb hby o_d11_98) rfl k9) ?_
  refine o_pF X142 hx hZ e142 hby (ty := .int) hown (o_m hw 48 rfl) Y128 Y121 (Or.inl (o_m hw 49 rfl)) (o_m hw 8 rfl) (by decide) rfl rfl o_d11_99 fun T143 h143 X143 e143 W143 => ?_
  have Fw143 := Y128.same W143
  have N_143 := Fr.snoc X143 N_120 gp21
  have Y144 := Y121.wr W143
  have Y145 := Y122.wr W143
  have Y146 := Y123.wr W143
  have Y147 := Y124.other W143 (o_sn (Or.inr (o_m hw 41 rfl)) (Or.inl (o_m hw 49 rfl)))
  have Y148 := Y125.other W143 (o_sn (Or.inl (o_m hw 44 rfl)) (Or.inl (o_m hw 49 rfl)))
  have Y149 := Y126.other W143 (o_sn (Or.inl (o_m hw 47 rfl)) (Or.inl (o_m hw 49 rfl)))
  have Y150 := Y127.other W143 (o_sn (Or.inl (o_m hw 95 rfl)) (Or.inl (o_m hw 49 rfl)))
  have Y152 := Y129.other W143 (o_sn (Or.inl (o_m hw 149 rfl)) (Or.inl (o_m hw 49 rfl)))
  have Y153 := Y130.other W143 (o_sn (Or.inr (o_m hw 26 rfl)) (Or.inl (o_m hw 49 rfl)))
  have Y154 := Y131.other W143 (o_sn (Or.inl (o_m hw 66 rfl)) (Or.inl (o_m hw 49 rfl)))
  have Y155 := Y132.other W143 (o_sn (Or.inl (o_m hw 39 rfl)) (Or.inl (o_m hw 49 rfl)))
  have Y156 := Y133.other W143 (o_sn (Or.inl (o_m hw 68 rfl)) (Or.inl (o_m hw 49 rfl)))
  have Y157 := Y134.other W143 (o_sn (Or.inl (o_m hw 80 rfl)) (Or.inl (o_m hw 49 rfl)))
  have Y158 := Y135.other W143 (o_sn (Or.inl (o_m hw 177 rfl)) (Or.inl (o_m hw 49 rfl)))
  have Y159 := Y136.other W143 (o_sn (Or.inl (o_m hw 179 rfl)) (Or.inl (o_m hw 49 rfl)))
  have Y160 := Y137.other W143 (o_sn (Or.inr (o_m hw 35 rfl)) (Or.inl (o_m hw 49 rfl)))
  have Y161 := Y138.other W143 (Or.inl (Ne.symm ne22))
  have Y162 := Y139.other W143 (Ne.symm ne23)
  have Y163 := A120.other W143 (Ne.symm ne25)
  have Y164 := Y141.other W143 (Ne.symm ne27)
  refine o_q T143 (o_f8 m 103 pp time r20 [(.ref pp)]) (fun _ k9 => XS.aloadN X143.here hx rfl (hb hby o_d11_102) rfl rfl k9) ?_
  refine o_gF X143 hx hZ e143 hby hown (o_m hw 25 rfl) Y153 o_d11_103 fun T165 X165 e165 => ?_
  refine o_q T165 (o_f8 m 107 pp time r20 [(.int r20), (.ref ru)]) (fun _ k9 => XS.iloadN X165.here hx rfl (hb hby o_d11_106) rfl k9) ?_
  refine o_iC (1 : Int32) X165 hx hby o_d11_107 rfl ?_
  refine o_q T165 (o_f8 m 109 pp time r20 [(.int (r20 + (1 : Int32))), (.ref ru)]) (fun _ k9 => XS.iadd X165.here hx rfl (hb hby o_d11_108) rfl k9) ?_
  obtain ⟨v166, T166, L166, hQ166, X166, st166⟩ := o_callV X165 hx hZ e165 hown (o_m hw 100 rfl) (o_m hw 101 rfl) (o_m hw 103 rfl) (o_m hw 102 rfl) (by decide) (b := ru) Y145 (o_m hw 104 rfl) (o_m hw 18 rfl) (o_k13_3 l Z a0 hw ru (r20 + (1 : Int32)) h143 Y161) (g := (o_f8 m 109 pp time r20 [(.int (r20 + (1 : Int32))), (.ref ru)])) rfl (by rw [hml]; rfl) rfl (argsL := [(.int (r20 + (1 : Int32)))]) (rest := []) rfl (lenOf o_pd3 rfl) rfl (hb hby o_d11_109) (o_b rfl) (o_b rfl) (o_b rfl) (o_b rfl)
  obtain ⟨rfl, rfl, e166⟩ := hQ166
  rw [List.append_nil] at X166
  refine o_q T166 (o_f8 m 112 pp time r20 []) st166 ?_
  refine o_q T166 (o_f8 m 113 pp time r20 [(.int r20)]) (fun _ k9 => XS.iloadN X166.here hx rfl (hb hby o_d11_112) rfl k9) ?_
  refine o_iC (1 : Int32) X166 hx hby o_d11_113 rfl ?_
  refine o_q T166 (o_f8 m 115 pp time r20 [(.int (r20 + (1 : Int32)))]) (fun _ k9 => XS.iadd X166.here hx rfl (hb hby o_d11_114) rfl k9) ?_
  have hP167 : o_Pr Z n0 pp rc ru wa tm fr (tl + (1 : Int32)) la20 L ch gb f94 f120 rs h143 := ⟨Y144, Y145, Y146, Y147, Y148, Y149, Y150, Fw143, Y152, Y153, Y154, Y155, Y156, Y157, Y158, Y159, Y160, Y161, Y162, Y163, Y164, nt21, wl21, gp21, gt21, gf21, gr21, gu21⟩
  have q168 : 0 ≤ ((r20 + (1 : Int32))).toInt := by
   have r1 := rng32 r20
   have k2 : (1 : Int32).toInt = 1 := by decide
   have e3 := c_iadd (r20) ((1 : Int32))
   have r3 := rng32 ((r20 + (1 : Int32)))
   rw [show (1 : Int32).toInt = 1 from by decide] at e3
   have k4 : (2 : Int32).toInt = 2 := by decide
   have e5 := c_iadd (r20) ((2 : Int32))
   have r5 := rng32 ((r20 + (2 : Int32)))
   rw [show (2 : Int32).toInt = 2 from by decide] at e5
   have r6 := rng32 tl
   have e7 := c_isub (tl) (r20)
   have r7 := rng32 ((tl - r20))
   have e8 := c_isub ((tl - r20)) ((1 : Int32))
   have r8 := rng32 (((tl - r20) - (1 : Int32)))
   rw [show (1 : Int32).toInt = 1 from by decide] at e8
   have e9 := c_iadd (tl) ((1 : Int32))
   have r9 := rng32 ((tl + (1 : Int32)))
   rw [show (1 : Int32).toInt = 1 from by decide] at e9
   have r10 := rng32 L
   omega
  have q169 : ((r20 + (1 : Int32))).toInt < ((tl + (1 : Int32))).toInt := by
   have r1 := rng32 r20
   have k2 : (1 : Int32).toInt = 1 := by decide
   have e3 := c_iadd (r20) ((1 : Int32))
   have r3 := rng32 ((r20 + (1 : Int32)))
   rw [show (1 : Int32).toInt = 1 from by decide] at e3
   have k4 : (2 : Int32).toInt = 2 := by decide
   have e5 := c_iadd (r20) ((2 : Int32))
   have r5 := rng32 ((r20 + (2 : Int32)))
   rw [show (2 : Int32).toInt = 2 from by decide] at e5
   have r6 := rng32 tl
   have e7 := c_isub (tl) (r20)
   have r7 := rng32 ((tl - r20))
   have e8 := c_isub ((tl - r20)) ((1 : Int32))
   have r8 := rng32 (((tl - r20) - (1 : Int32)))
   rw [show (1 : Int32).toInt = 1 from by decide] at e8
   have e9 := c_iadd (tl) ((1 : Int32))
   have r9 := rng32 ((tl + (1 : Int32)))
   rw [show (1 : Int32).toInt = 1 from by decide] at e9
   have r10 := rng32 L
   omega
  have q170 : tl.toInt ≤ ((tl + (1 : Int32))).toInt := by
   have r1 := rng32 r20
   have k2 : (1 : Int32).toInt = 1 := by decide
   have e3 := c_iadd (r20) ((1 : Int32))
   have r3 := rng32 ((r20 + (1 : Int32)))
   rw [show (1 : Int32).toInt = 1 from by decide] at e3
   have k4 : (2 : Int32).toInt = 2 := by decide
   have e5 := c_iadd (r20) ((2 : Int32))
   have r5 := rng32 ((r20 + (2 : Int32)))
   rw [show (2 : Int32).toInt = 2 from by decide] at e5
   have r6 := rng32 tl
   have e7 := c_isub (tl) (r20)
   have r7 := rng32 ((tl - r20))
   have e8 := c_isub ((tl - r20)) ((1 : Int32))
   have r8 := rng32 (((tl - r20) - (1 : Int32)))
   rw [show (1 : Int32).toInt = 1 from by decide] at e8
   have e9 := c_iadd (tl) ((1 : Int32))
   have r9 := rng32 ((tl + (1 : Int32)))
   rw [show (1 : Int32).toInt = 1 from by decide] at e9
   have r10 := rng32 L
   omega
  have q171 : ((tl + (1 : Int32))).toInt ≤ tl.toInt + 1 := by
   have r1 := rng32 r20
   have k2 : (1 : Int32).toInt = 1 := by decide
   have e3 := c_iadd (r20) ((1 : Int32))
   have r3 := rng32 ((r20 + (1 : Int32)))
   rw [show (1 : Int32).toInt = 1 from by decide] at e3
   have k4 : (2 : Int32).toInt = 2 := by decide
   have e5 := c_iadd (r20) ((2 : Int32))
   have r5 := rng32 ((r20 + (2 : Int32)))
   rw [show (2 : Int32).toInt = 2 from by decide] at e5
   have r6 := rng32 tl
   have e7 := c_isub (tl) (r20)
   have r7 := rng32 ((tl - r20))
   have e8 := c_isub ((tl - r20)) ((1 : Int32))
   have r8 := rng32 (((tl - r20) - (1 : Int32)))
   rw [show (1 : Int32).toInt = 1 from by decide] at e8
   have e9 := c_iadd (tl) ((1 : Int32))
   have r9 := rng32 ((tl + (1 : Int32)))
   rw [show (1 : Int32).toInt = 1 from by decide] at e9
   have r10 := rng32 L
   omega
  have ma172 : ((r20 + (1 : Int32))).toNatClampNeg = r20.toNatClampNeg + 1 := by
   have r1 := rng32 r20
   have k2 : (1 : Int32).toInt = 1 := by decide
   have e3 := c_iadd (r20) ((1 : Int32))
   have r3 := rng32 ((r20 + (1 : Int32)))
   rw [show (1 : Int32).toInt = 1 from by decide] at e3
   have k4 : (2 : Int32).toInt = 2 := by decide
   have e5 := c_iadd (r20) ((2 : Int32))
   have r5 := rng32 ((r20 + (2 : Int32)))
   rw [show (2 : Int32).toInt = 2 from by decide] at e5
   have r6 := rng32 tl
   have e7 := c_isub (tl) (r20)
   have r7 := rng32 ((tl - r20))
   have e8 := c_isub ((tl - r20)) ((1 : Int32))
   have r8 := rng32 (((tl - r20) - (1 : Int32)))
   rw [show (1 : Int32).toInt = 1 from by decide] at e8
   have e9 := c_iadd (tl) ((1 : Int32))
   have r9 := rng32 ((tl + (1 : Int32)))
   rw [show (1 : Int32).toInt = 1 from by decide] at e9
   have r10 := rng32 L
   have n0 := o_nat (tl) (by omega)
   have n1 := o_nat (r20) (by omega)
   have n2 := o_nat ((r20 + (1 : Int32))) (by omega)
   have n3 := o_nat ((r20 + (2 : Int32))) (by omega)
   have n4 := o_nat (((tl - r20) - (1 : Int32))) (by omega)
   have n5 := o_nat ((tl + (1 : Int32))) (by omega)
   omega
  have mb172 : ((r20 + (2 : Int32))).toNatClampNeg = r20.toNatClampNeg + 2 := by
   have r1 := rng32 r20
   have k2 : (1 : Int32).toInt = 1 := by decide
   have e3 := c_iadd (r20) ((1 : Int32))
   have r3 := rng32 ((r20 + (1 : Int32)))
   rw [show (1 : Int32).toInt = 1 from by decide] at e3
   have k4 : (2 : Int32).toInt = 2 := by decide
   have e5 := c_iadd (r20) ((2 : Int32))
   have r5 := rng32 ((r20 + (2 : Int32)))
   rw [show (2 : Int32).toInt = 2 from by decide] at e5
   have r6 := rng32 tl
   have e7 := c_isub (tl) (r20)
   have r7 := rng32 ((tl - r20))
   have e8 := c_isub ((tl - r20)) ((1 : Int32))
   have r8 := rng32 (((tl - r20) - (1 : Int32)))
   rw [show (1 : Int32).toInt = 1 from by decide] at e8
   have e9 := c_iadd (tl) ((1 : Int32))
   have r9 := rng32 ((tl + (1 : Int32)))
   rw [show (1 : Int32).toInt = 1 from by decide] at e9
   have r10 := rng32 L
   have n0 := o_nat (tl) (by omega)
   have n1 := o_nat (r20) (by omega)
   have n2 := o_nat ((r20 + (1 : Int32))) (by omega)
   have n3 := o_nat ((r20 + (2 : Int32))) (by omega)
   have n4 := o_nat (((tl - r20) - (1 : Int32))) (by omega)
   have n5 := o_nat ((tl + (1 : Int32))) (by omega)
   omega
  have mc172 : (((tl - r20) - (1 : Int32))).toNatClampNeg + r20.toNatClampNeg + 1 = tl.toNatClampNeg := by
   have r1 := rng32 r20
   have k2 : (1 : Int32).toInt = 1 := by decide
   have e3 := c_iadd (r20) ((1 : Int32))
   have r3 := rng32 ((r20 + (1 : Int32)))
   rw [show (1 : Int32).toInt = 1 from by decide] at e3
   have k4 : (2 : Int32).toInt = 2 := by decide
   have e5 := c_iadd (r20) ((2 : Int32))
   have r5 := rng32 ((r20 + (2 : Int32)))
   rw [show (2 : Int32).toInt = 2 from by decide] at e5
   have r6 := rng32 tl
   have e7 := c_isub (tl) (r20)
   have r7 := rng32 ((tl - r20))
   have e8 := c_isub ((tl - r20)) ((1 : Int32))
   have r8 := rng32 (((tl - r20) - (1 : Int32)))
   rw [show (1 : Int32).toInt = 1 from by decide] at e8
   have e9 := c_iadd (tl) ((1 : Int32))
   have r9 := rng32 ((tl + (1 : Int32)))
   rw [show (1 : Int32).toInt = 1 from by decide] at e9
   have r10 := rng32 L
   have n0 := o_nat (tl) (by omega)
   have n1 := o_nat (r20) (by omega)
   have n2 := o_nat ((r20 + (1 : Int32))) (by omega)
   have n3 := o_nat ((r20 + (2 : Int32))) (by omega)
   have n4 := o_nat (((tl - r20) - (1 : Int32))) (by omega)
   have n5 := o_nat ((tl + (1 : Int32))) (by omega)
   omega
  have md172 : ((tl + (1 : Int32))).toNatClampNeg = tl.toNatClampNeg + 1 := by
   have r1 := rng32 r20
   have k2 : (1 : Int32).toInt = 1 := by decide
   have e3 := c_iadd (r20) ((1 : Int32))
   have r3 := rng32 ((r20 + (1 : Int32)))
   rw [show (1 : Int32).toInt = 1 from by decide] at e3
   have k4 : (2 : Int32).toInt = 2 := by decide
   have e5 := c_iadd (r20) ((2 : Int32))
   have r5 := rng32 ((r20 + (2 : Int32)))
   rw [show (2 : Int32).toInt = 2 from by decide] at e5
   have r6 := rng32 tl
   have e7 := c_isub (tl) (r20)
   have r7 := rng32 ((tl - r20))
   have e8 := c_isub ((tl - r20)) ((1 : Int32))
   have r8 := rng32 (((tl - r20) - (1 : Int32)))
   rw [show (1 : Int32).toInt = 1 from by decide] at e8
   have e9 := c_iadd (tl) ((1 : Int32))
   have r9 := rng32 ((tl + (1 : Int32)))
   rw [show (1 : Int32).toInt = 1 from by decide] at e9
   have r10 := rng32 L
   have n0 := o_nat (tl) (by omega)
   have n1 := o_nat (r20) (by omega)
   have n2 := o_nat ((r20 + (1 : Int32))) (by omega)
   have n3 := o_nat ((r20 + (2 : Int32))) (by omega)
   have n4 := o_nat (((tl - r20) - (1 : Int32))) (by omega)
   have n5 := o_nat ((tl + (1 : Int32))) (by omega)
   omega
  have me172 : r20.toNatClampNeg < tl.toNatClampNeg := by
   have r1 := rng32 r20
   have k2 : (1 : Int32).toInt = 1 := by decide
   have e3 := c_iadd (r20) ((1 : Int32))
   have r3 := rng32 ((r20 + (1 : Int32)))
   rw [show (1 : Int32).toInt = 1 from by decide] at e3
   have k4 : (2 : Int32).toInt = 2 := by decide
   have e5 := c_iadd (r20) ((2 : Int32))
   have r5 := rng32 ((r20 + (2 : Int32)))
   rw [show (2 : Int32).toInt = 2 from by decide] at e5
   have r6 := rng32 tl
   have e7 := c_isub (tl) (r20)
   have r7 := rng32 ((tl - r20))
   have e8 := c_isub ((tl - r20)) ((1 : Int32))
   have r8 := rng32 (((tl - r20) - (1 : Int32)))
   rw [show (1 : Int32).toInt = 1 from by decide] at e8
   have e9 := c_iadd (tl) ((1 : Int32))
   have r9 := rng32 ((tl + (1 : Int32)))
   rw [show (1 : Int32).toInt = 1 from by decide] at e9
   have r10 := rng32 L
   have n0 := o_nat (tl) (by omega)
   have n1 := o_nat (r20) (by omega)
   have n2 := o_nat ((r20 + (1 : Int32))) (by omega)
   have n3 := o_nat ((r20 + (2 : Int32))) (by omega)
   have n4 := o_nat (((tl - r20) - (1 : Int32))) (by omega)
   have n5 := o_nat ((tl + (1 : Int32))) (by omega)
   omega
  have F172 : ∀ i, f120 i = if i = r20.toNatClampNeg + 1 then fs r20.toNatClampNeg else if r20.toNatClampNeg + 2 ≤ i ∧ i < tl.toNatClampNeg + 1 then fs (i - 1) else fs i := by
   intro i
   rw [d_f120, d_f70]
   dsimp only
   rw [ma172, mb172]
   by_cases z1 : i = r20.toNatClampNeg + 1
   ·rw [if_pos z1, if_pos z1, if_neg (by omega)]
   ·rw [if_neg z1, if_neg z1]
    by_cases z2 : r20.toNatClampNeg + 2 ≤ i ∧ i < tl.toNatClampNeg + 1
    ·rw [if_pos z2, if_pos (by omega), show r20.toNatClampNeg + 1 + (i - (r20.toNatClampNeg + 2)) = i - 1 by omega]
    ·rw [if_neg z2, if_neg (by omega)]
  have G172 : ∀ i, f94 i = if i = r20.toNatClampNeg + 1 then time else if r20.toNatClampNeg + 2 ≤ i ∧ i < tl.toNatClampNeg + 1 then xs (i - 1) else xs i := by
   intro i
   rw [d_f94, d_f45]
   dsimp only
   rw [ma172, mb172]
   by_cases z1 : i = r20.toNatClampNeg + 1
   ·rw [if_pos z1, if_pos z1]
   ·rw [if_neg z1, if_neg z1]
    by_cases z2 : r20.toNatClampNeg + 2 ≤ i ∧ i < tl.toNatClampNeg + 1
    ·rw [if_pos z2, if_pos (by omega), show r20.toNatClampNeg + 1 + (i - (r20.toNatClampNeg + 2)) = i - 1 by omega]
    ·rw [if_neg z2, if_neg (by omega)]
  obtain ⟨P172, X172, Y172⟩ := o_ins (A := r20.toNatClampNeg) (TL := tl.toNatClampNeg) me172 F172 G172 (fun hm hz q => c0 (by rw [q, hm]; exact (o_maxL _ (by have y := sc20 hz; rw [q, hm] at y; exact y)).symm))
  have ph172 : tl.toInt = 1 → (xs 0 = time ∧ ((r20 + (1 : Int32))).toInt = 0 ∧ ((tl + (1 : Int32))).toInt = 1 ∧ f94 = xs ∧ f120 = fs) ∨ (¬ xs 0 = time ∧ ((r20 + (1 : Int32))).toInt = 1 ∧ ((tl + (1 : Int32))).toInt = 2 ∧ f94 1 = time ∧ f120 0 = fs 0 ∧ f120 1 = fs 0) := fun h1 => by
   have z0 : r20.toInt = 0 := by omega
   have z1 : r20.toNatClampNeg = 0 := by have := o_nat r20 (by omega); omega
   have z2 := c0
   have z3 := F172 0
   have z4 := F172 1
   have z5 := G172 1
   rw [z1] at z2 z3 z4 z5
   rw [if_pos rfl] at z4 z5
   rw [if_neg (by omega), if_neg (by omega)] at z3
   have r1 := rng32 r20
   have k2 : (1 : Int32).toInt = 1 := by decide
   have e3 := c_iadd (r20) ((1 : Int32))
   have r3 := rng32 ((r20 + (1 : Int32)))
   rw [show (1 : Int32).toInt = 1 from by decide] at e3
   have r4 := rng32 tl
   have e5 := c_iadd (tl) ((1 : Int32))
   have r5 := rng32 ((tl + (1 : Int32)))
   rw [show (1 : Int32).toInt = 1 from by decide] at e5
   exact Or.inr ⟨z2, by omega, by omega, z5, z3, z4⟩
  refine o_retI X166 hx hlk hret (hb hby o_d11_115) ?_ (o_b rfl) (o_b rfl)
  rw [e166]
  exact ⟨(r20 + (1 : Int32)), (tl + (1 : Int32)), la20, f94, f120, rfl, N_143, hP167, q168, q169, q170, q171, (by rw [md172]; exact P172), X172, (by rw [md172]; exact Y172), ph172⟩
theorem o_d16_0 : decode o_y6 0 = .ok (.iload_n 1, 1) := by decide +kernel
theorem o_d16_1 : decode o_y6 1 = .ok (.aload_n 0, 1) := by decide +kernel
theorem o_d16_2 : decode o_y6 2 = .ok (.getfield 56, 3) := by decide +kernel
theorem o_d16_5 : decode o_y6 5 = .ok (.if_icmp .le 92, 3) := by decide +kernel
theorem o_d16_8 : decode o_y6 8 = .ok (.iload_n 1, 1) := by decide +kernel
theorem o_d16_9 : decode o_y6 9 = .ok (.aload_n 0, 1) := by decide +kernel
theorem o_d16_10 : decode o_y6 10 = .ok (.getfield 53, 3) := by decide +kernel
theorem o_d16_13 : decode o_y6 13 = .ok (.if_icmp .ge 84, 3) := by decide +kernel
theorem o_d16_16 : decode o_y6 16 = .ok (.aload_n 0, 1) := by decide +kernel
theorem o_d16_17 : decode o_y6 17 = .ok (.getfield 49, 3) := by decide +kernel
theorem o_d16_20 : decode o_y6 20 = .ok (.iload_n 1, 1) := by decide +kernel
theorem o_d16_21 : decode o_y6 21 = .ok (.iaload, 1) := by decide +kernel
theorem o_d16_22 : decode o_y6 22 = .ok (.aload_n 0, 1) := by decide +kernel
theorem o_d16_23 : decode o_y6 23 = .ok (.getfield 49, 3) := by decide +kernel
theorem o_d16_26 : decode o_y6 26 = .ok (.iload_n 1, 1) := by decide +kernel
theorem o_d16_27 : decode o_y6 27 = .ok (.iconst 1, 1) := by decide +kernel
theorem o_d16_28 : decode o_y6 28 = .ok (.isub, 1) := by decide +kernel
theorem o_d16_29 : decode o_y6 29 = .ok (.iaload, 1) := by decide +kernel
theorem o_d16_30 : decode o_y6 30 = .ok (.if_icmp .ne 67, 3) := by decide +kernel
theorem o_d16_33 : decode o_y6 33 = .ok (.aload_n 0, 1) := by decide +kernel
theorem o_d16_34 : decode o_y6 34 = .ok (.getfield 46, 3) := by decide +kernel
theorem o_d16_37 : decode o_y6 37 = .ok (.iload_n 1, 1) := by decide +kernel
theorem o_d16_38 : decode o_y6 38 = .ok (.iconst 1, 1) := by decide +kernel
theorem o_d16_39 : decode o_y6 39 = .ok (.iadd, 1) := by decide +kernel
theorem o_d16_40 : decode o_y6 40 = .ok (.aload_n 0, 1) := by decide +kernel
theorem o_d16_41 : decode o_y6 41 = .ok (.getfield 46, 3) := by decide +kernel
theorem o_d16_44 : decode o_y6 44 = .ok (.iload_n 1, 1) := by decide +kernel
theorem o_d16_45 : decode o_y6 45 = .ok (.aload_n 0, 1) := by decide +kernel
theorem o_d16_46 : decode o_y6 46 = .ok (.getfield 53, 3) := by decide +kernel
theorem o_d16_49 : decode o_y6 49 = .ok (.iload_n 1, 1) := by decide +kernel
theorem o_d16_50 : decode o_y6 50 = .ok (.isub, 1) := by decide +kernel
theorem o_d16_51 : decode o_y6 51 = .ok (.iconst 1, 1) := by decide +kernel
theorem o_d16_52 : decode o_y6 52 = .ok (.isub, 1) := by decide +kernel
theorem o_d16_53 : decode o_y6 53 = .ok (.invokestatic 244, 3) := by decide +kernel
theorem o_d16_56 : decode o_y6 56 = .ok (.aload_n 0, 1) := by decide +kernel
theorem o_d16_57 : decode o_y6 57 = .ok (.getfield 49, 3) := by decide +kernel
theorem o_d16_60 : decode o_y6 60 = .ok (.iload_n 1, 1) := by decide +kernel
theorem o_d16_61 : decode o_y6 61 = .ok (.iconst 1, 1) := by decide +kernel
theorem o_d16_62 : decode o_y6 62 = .ok (.iadd, 1) := by decide +kernel
theorem o_d16_63 : decode o_y6 63 = .ok (.aload_n 0, 1) := by decide +kernel
theorem o_d16_64 : decode o_y6 64 = .ok (.getfield 49, 3) := by decide +kernel
theorem o_d16_67 : decode o_y6 67 = .ok (.iload_n 1, 1) := by decide +kernel
theorem o_d16_68 : decode o_y6 68 = .ok (.aload_n 0, 1) := by decide +kernel
theorem o_d16_69 : decode o_y6 69 = .ok (.getfield 53, 3) := by decide +kernel
theorem o_d16_72 : decode o_y6 72 = .ok (.iload_n 1, 1) := by decide +kernel
theorem o_d16_73 : decode o_y6 73 = .ok (.isub, 1) := by decide +kernel
theorem o_d16_74 : decode o_y6 74 = .ok (.iconst 1, 1) := by decide +kernel
theorem o_d16_75 : decode o_y6 75 = .ok (.isub, 1) := by decide +kernel
theorem o_d16_76 : decode o_y6 76 = .ok (.invokestatic 244, 3) := by decide +kernel
theorem o_d16_79 : decode o_y6 79 = .ok (.aload_n 0, 1) := by decide +kernel
theorem o_d16_80 : decode o_y6 80 = .ok (.dup, 1) := by decide +kernel
theorem o_d16_81 : decode o_y6 81 = .ok (.getfield 53, 3) := by decide +kernel
theorem o_d16_84 : decode o_y6 84 = .ok (.iconst 1, 1) := by decide +kernel
theorem o_d16_85 : decode o_y6 85 = .ok (.isub, 1) := by decide +kernel
theorem o_d16_86 : decode o_y6 86 = .ok (.putfield 53, 3) := by decide +kernel
theorem o_d16_89 : decode o_y6 89 = .ok (.aload_n 0, 1) := by decide +kernel
theorem o_d16_90 : decode o_y6 90 = .ok (.getfield 14, 3) := by decide +kernel
theorem o_d16_93 : decode o_y6 93 = .ok (.iload_n 1, 1) := by decide +kernel
theorem o_d16_94 : decode o_y6 94 = .ok (.invokevirtual 312, 3) := by decide +kernel
theorem o_d28_0 : decode o_y7 0 = .ok (.aload_n 0, 1) := by decide +kernel
theorem o_d28_1 : decode o_y7 1 = .ok (.getfield 15, 3) := by decide +kernel
theorem o_d28_4 : decode o_y7 4 = .ok (.ifnonnull 4, 3) := by decide +kernel
theorem o_d28_7 : decode o_y7 7 = .ok (.return_, 1) := by decide +kernel
theorem o_pn28 : plainFor (⟨o_n3, "removed", "(I)V"⟩ : MethodName) = true := plainFor_of_name (by first | (simp [plainName, overriddenIn]; done) | decide +kernel)
set_option maxRecDepth 65536 in
set_option maxHeartbeats 40000000 in
theorem o_k28_4 (l : Launch) (Z : State) (a0 : Array Value) (hw : ∀ d ∈ tables_1, d.before a0 Z = true) (p0 : Addr) (p1 : Int32) (h0 : Heap) (H0 : Fld Z h0 p0 o_n3 "nodes" "[[J" .null) :
  o_C l (⟨o_n3, "removed", "(I)V"⟩ : MethodName) o_y7 4 none (o_R 0 0 0 0) Z h0 #[(.ref p0), (.int p1)] (o_P none h0) := by
 refine o_body o_pn28 ?_
 intro p e s m below meth c s₁ hx hby hml hZ hown hnm hret hlk X0 e0
 refine o_cast (f' := (o_f9 m 0 p0 p1 [])) (by first | (simp [entryFrame, mkF, argsToLocals, Value.category, maxLocals]; done) | rfl) ?_
 refine o_q s₁ (o_f9 m 1 p0 p1 [(.ref p0)]) (fun _ k9 => XS.aloadN X0.here hx rfl (hb hby o_d28_0) rfl rfl k9) ?_
 refine o_gF X0 hx hZ e0 hby hown (o_m hw 105 rfl) H0 o_d28_1 fun T1 X1 e1 => ?_
 refine o_q T1 (o_f9 m 7 p0 p1 []) (fun _ k9 => XS.ifnonnullNo X1.here hx rfl (hb hby o_d28_4) rfl k9) ?_
 exact o_retV X1 hx hlk hret (hb hby o_d28_7) ⟨rfl, rfl, e1⟩ (by decide) (by decide)
theorem o_d16_97 : decode o_y6 97 = .ok (.return_, 1) := by decide +kernel
theorem o_pn16 : plainFor (⟨o_n1, "mergeWithPrevious", "(I)V"⟩ : MethodName) = true := plainFor_of_name (by first | (simp [plainName, overriddenIn]; done) | decide +kernel)
set_option maxRecDepth 65536 in
set_option maxHeartbeats 40000000 in
theorem o_merge (l : Launch) (Z : State) (a0 : Array Value) (hw : ∀ d ∈ tables_1, d.before a0 Z = true) (n0 : Nat) (pp rc ru wa tm fr : Addr) (tl la L : Int32) (ch gb : Int64) (xs : Nat → Int64) (fs : Nat → Int32) (rs : Nat → Int64) (pl : Int32) (h0 : Heap) (hP : o_Pr Z n0 pp rc ru wa tm fr tl la L ch gb xs fs rs h0) (i1 : 1 ≤ tl.toInt) (i2 : tl.toInt ≤ L.toInt) (i3 : L.toInt ≤ 32) (j1 : 0 ≤ pl.toInt) :
  o_C l (⟨o_n1, "mergeWithPrevious", "(I)V"⟩ : MethodName) o_y6 2 none (o_R 1 0 0 40) Z h0 #[(.ref pp), (.int pl)] (fun v h Ls => ∃ (tl' : Int32) (xs' : Nat → Int64) (fs' : Nat → Int32), v = none ∧ Fr n0 Ls ∧ o_Pr Z n0 pp rc ru wa tm fr tl' la L ch gb xs' fs' rs h ∧ 1 ≤ tl'.toInt ∧ tl'.toInt ≤ tl.toInt ∧ (∀ i, i < tl'.toNatClampNeg → ∃ k, k < tl.toNatClampNeg ∧ fs' i = fs k) ∧ xs' 0 = xs 0 ∧ (xs (tl.toNatClampNeg - 1) = (9223372036854775807 : Int64) → (∀ k, k + 1 < tl.toNatClampNeg → fs k ≠ fs (tl.toNatClampNeg - 1)) → xs' (tl'.toNatClampNeg - 1) = (9223372036854775807 : Int64) ∧ fs' (tl'.toNatClampNeg - 1) = fs (tl.toNatClampNeg - 1) ∧ ∀ i, i + 1 < tl'.toNatClampNeg → ∃ k, k + 1 < tl.toNatClampNeg ∧ fs' i = fs k)) := by
 refine o_body o_pn16 ?_
 intro p e s m below meth c s₁ hx hby hml hZ hown hnm hret hlk X0 e0
 refine o_cast (f' := (o_f10 m 0 pp pl [])) (by first | (simp [entryFrame, mkF, argsToLocals, Value.category, maxLocals]; done) | rfl) ?_
 obtain ⟨Ep1, Er1, Ew1, F1_cpus, F1_times, F1_free, F1_head, F1_tail, F1_lastAt, F1_runs, F1_firstKnown, F1_watcher, F1_watchedAs, F1_changes, F1_merged, F1_gaveBack, F1_recent, Fn1, At1, Af1, Ar1, nt1, wl1, gp1, gt1, gf1, gr1, gu1⟩ := hP
 have ne2 : o_ne pp ru := Ep1.ne Er1 (by decide)
 have ne3 : o_ne pp tm := At1.neExa Ep1 (o_m hw 8 rfl)
 have ne4 : o_ne ru tm := At1.neExa Er1 (o_m hw 17 rfl)
 have ne5 : o_ne pp fr := Af1.neExa Ep1 (o_m hw 8 rfl)
 have ne6 : o_ne ru fr := Af1.neExa Er1 (o_m hw 17 rfl)
 have ne7 : o_ne pp rc := Ar1.neExa Ep1 (o_m hw 8 rfl)
 have ne14 : o_ne tm fr := At1.ne Af1 (by intro q; cases q)
 have ne15 : o_ne fr rc := Af1.ne Ar1 (by intro q; cases q)
 refine o_q s₁ (o_f10 m 1 pp pl [(.int pl)]) (fun _ k9 => XS.iloadN X0.here hx rfl (hb hby o_d16_0) rfl k9) ?_
 refine o_q s₁ (o_f10 m 2 pp pl [(.ref pp), (.int pl)]) (fun _ k9 => XS.aloadN X0.here hx rfl (hb hby o_d16_1) rfl rfl k9) ?_
 refine o_gF X0 hx hZ e0 hby hown (o_m hw 94 rfl) F1_head o_d16_2 fun T16 X16 e16 => ?_
 by_cases c0 : (0 : Int32) < pl
 ·refine o_cN X16 hx hby o_d16_5 (tlt c0).2.2.2 ?_
  refine o_q T16 (o_f10 m 9 pp pl [(.int pl)]) (fun _ k9 => XS.iloadN X16.here hx rfl (hb hby o_d16_8) rfl k9) ?_
  refine o_q T16 (o_f10 m 10 pp pl [(.ref pp), (.int pl)]) (fun _ k9 => XS.aloadN X16.here hx rfl (hb hby o_d16_9) rfl rfl k9) ?_
  refine o_gF X16 hx hZ e16 hby hown (o_m hw 48 rfl) F1_tail o_d16_10 fun T17 X17 e17 => ?_
  by_cases c1 : pl < tl
  ·refine o_cN X17 hx hby o_d16_13 (tlt c1).2.1 ?_
   refine o_q T17 (o_f10 m 17 pp pl [(.ref pp)]) (fun _ k9 => XS.aloadN X17.here hx rfl (hb hby o_d16_16) rfl rfl k9) ?_
   refine o_gF X17 hx hZ e17 hby hown (o_m hw 46 rfl) F1_free o_d16_17 fun T18 X18 e18 => ?_
   refine o_q T18 (o_f10 m 21 pp pl [(.int pl), (.ref fr)]) (fun _ k9 => XS.iloadN X18.here hx rfl (hb hby o_d16_20) rfl k9) ?_
   have hin19 : ¬ (pl < (0 : Int32)) ∧ pl < L := by
    have r1 := rng32 pl
    have r2 := rng32 L
    have k3 : (0 : Int32).toInt = 0 := by decide
    have r4 := rng32 tl
    have d0 : (0 : Int32).toInt < pl.toInt := Int32.lt_iff_toInt_lt.mp c0
    have d1 : pl.toInt < tl.toInt := Int32.lt_iff_toInt_lt.mp c1
    rw [Int32.lt_iff_toInt_lt, Int32.lt_iff_toInt_lt]
    omega
   refine o_dI X18 hx hZ e18 hby Af1 hin19 o_d16_21 ?_
   refine o_q T18 (o_f10 m 23 pp pl [(.ref pp), (.int (fs pl.toNatClampNeg))]) (fun _ k9 => XS.aloadN X18.here hx rfl (hb hby o_d16_22) rfl rfl k9) ?_
   refine o_gF X18 hx hZ e18 hby hown (o_m hw 46 rfl) F1_free o_d16_23 fun T20 X20 e20 => ?_
   refine o_q T20 (o_f10 m 27 pp pl [(.int pl), (.ref fr), (.int (fs pl.toNatClampNeg))]) (fun _ k9 => XS.iloadN X20.here hx rfl (hb hby o_d16_26) rfl k9) ?_
   refine o_iC (1 : Int32) X20 hx hby o_d16_27 rfl ?_
   refine o_q T20 (o_f10 m 29 pp pl [(.int (pl - (1 : Int32))), (.ref fr), (.int (fs pl.toNatClampNeg))]) (fun _ k9 => XS.isub X20.here hx rfl (hb hby o_d16_28) rfl k9) ?_
   have hin21 : ¬ ((pl - (1 : Int32)) < (0 : Int32)) ∧ (pl - (1 : Int32)) < L := by
    have r1 := rng32 pl
    have k2 : (1 : Int32).toInt = 1 := by decide
    have e3 := c_isub (pl) ((1 : Int32))
    have r3 := rng32 ((pl - (1 : Int32)))
    rw [show (1 : Int32).toInt = 1 from by decide] at e3
    have r4 := rng32 L
    have k5 : (0 : Int32).toInt = 0 := by decide
    have r6 := rng32 tl
    have d0 : (0 : Int32).toInt < pl.toInt := Int32.lt_iff_toInt_lt.mp c0
    have d1 : pl.toInt < tl.toInt := Int32.lt_iff_toInt_lt.mp c1
    rw [Int32.lt_iff_toInt_lt, Int32.lt_iff_toInt_lt]
    omega
   refine o_dI X20 hx hZ e20 hby Af1 hin21 o_d16_29 ?_
   by_cases c2 : (fs pl.toNatClampNeg) = (fs ((pl - (1 : Int32))).toNatClampNeg)
   ·refine o_cN X20 hx hby o_d16_30 (teq c2).2 ?_
    refine o_q T20 (o_f10 m 34 pp pl [(.ref pp)]) (fun _ k9 => XS.aloadN X20.here hx rfl (hb hby o_d16_33) rfl rfl k9) ?_
    refine o_gF X20 hx hZ e20 hby hown (o_m hw 43 rfl) F1_times o_d16_34 fun T22 X22 e22 => ?_
    refine o_q T22 (o_f10 m 38 pp pl [(.int pl), (.ref tm)]) (fun _ k9 => XS.iloadN X22.here hx rfl (hb hby o_d16_37) rfl k9) ?_
    refine o_iC (1 : Int32) X22 hx hby o_d16_38 rfl ?_
    refine o_q T22 (o_f10 m 40 pp pl [(.int (pl + (1 : Int32))), (.ref tm)]) (fun _ k9 => XS.iadd X22.here hx rfl (hb hby o_d16_39) rfl k9) ?_
    refine o_q T22 (o_f10 m 41 pp pl [(.ref pp), (.int (pl + (1 : Int32))), (.ref tm)]) (fun _ k9 => XS.aloadN X22.here hx rfl (hb hby o_d16_40) rfl rfl k9) ?_
    refine o_gF X22 hx hZ e22 hby hown (o_m hw 43 rfl) F1_times o_d16_41 fun T23 X23 e23 => ?_
    refine o_q T23 (o_f10 m 45 pp pl [(.int pl), (.ref tm), (.int (pl + (1 : Int32))), (.ref tm)]) (fun _ k9 => XS.iloadN X23.here hx rfl (hb hby o_d16_44) rfl k9) ?_
    refine o_q T23 (o_f10 m 46 pp pl [(.ref pp), (.int pl), (.ref tm), (.int (pl + (1 : Int32))), (.ref tm)]) (fun _ k9 => XS.aloadN X23.here hx rfl (hb hby o_d16_45) rfl rfl k9) ?_
    refine o_gF X23 hx hZ e23 hby hown (o_m hw 48 rfl) F1_tail o_d16_46 fun T24 X24 e24 => ?_
    refine o_q T24 (o_f10 m 50 pp pl [(.int pl), (.int tl), (.int pl), (.ref tm), (.int (pl + (1 : Int32))), (.ref tm)]) (fun _ k9 => XS.iloadN X24.here hx rfl (hb hby o_d16_49) rfl k9) ?_
    refine o_q T24 (o_f10 m 51 pp pl [(.int (tl - pl)), (.int pl), (.ref tm), (.int (pl + (1 : Int32))), (.ref tm)]) (fun _ k9 => XS.isub X24.here hx rfl (hb hby o_d16_50) rfl k9) ?_
    refine o_iC (1 : Int32) X24 hx hby o_d16_51 rfl ?_
    refine o_q T24 (o_f10 m 53 pp pl [(.int ((tl - pl) - (1 : Int32))), (.int pl), (.ref tm), (.int (pl + (1 : Int32))), (.ref tm)]) (fun _ k9 => XS.isub X24.here hx rfl (hb hby o_d16_52) rfl k9) ?_
    have u1_25 : 0 ≤ ((pl + (1 : Int32))).toInt := by
     have r1 := rng32 pl
     have k2 : (1 : Int32).toInt = 1 := by decide
     have e3 := c_iadd (pl) ((1 : Int32))
     have r3 := rng32 ((pl + (1 : Int32)))
     rw [show (1 : Int32).toInt = 1 from by decide] at e3
     have k4 : (0 : Int32).toInt = 0 := by decide
     have r5 := rng32 tl
     have r6 := rng32 ((fs pl.toNatClampNeg))
     have r7 := rng32 ((fs ((pl - (1 : Int32))).toNatClampNeg))
     have d0 : (0 : Int32).toInt < pl.toInt := Int32.lt_iff_toInt_lt.mp c0
     have d1 : pl.toInt < tl.toInt := Int32.lt_iff_toInt_lt.mp c1
     have d2 : ((fs pl.toNatClampNeg)).toInt = ((fs ((pl - (1 : Int32))).toNatClampNeg)).toInt := congrArg Int32.toInt c2
     omega
    have u2_25 : 0 ≤ pl.toInt := by
     have r1 := rng32 pl
     have k2 : (0 : Int32).toInt = 0 := by decide
     have r3 := rng32 tl
     have r4 := rng32 ((fs pl.toNatClampNeg))
     have r5 := rng32 ((fs ((pl - (1 : Int32))).toNatClampNeg))
     have d0 : (0 : Int32).toInt < pl.toInt := Int32.lt_iff_toInt_lt.mp c0
     have d1 : pl.toInt < tl.toInt := Int32.lt_iff_toInt_lt.mp c1
     have d2 : ((fs pl.toNatClampNeg)).toInt = ((fs ((pl - (1 : Int32))).toNatClampNeg)).toInt := congrArg Int32.toInt c2
     omega
    have u3_25 : 0 ≤ (((tl - pl) - (1 : Int32))).toInt := by
     have r1 := rng32 tl
     have r2 := rng32 pl
     have e3 := c_isub (tl) (pl)
     have r3 := rng32 ((tl - pl))
     have k4 : (1 : Int32).toInt = 1 := by decide
     have e5 := c_isub ((tl - pl)) ((1 : Int32))
     have r5 := rng32 (((tl - pl) - (1 : Int32)))
     rw [show (1 : Int32).toInt = 1 from by decide] at e5
     have k6 : (0 : Int32).toInt = 0 := by decide
     have r7 := rng32 ((fs pl.toNatClampNeg))
     have r8 := rng32 ((fs ((pl - (1 : Int32))).toNatClampNeg))
     have d0 : (0 : Int32).toInt < pl.toInt := Int32.lt_iff_toInt_lt.mp c0
     have d1 : pl.toInt < tl.toInt := Int32.lt_iff_toInt_lt.mp c1
     have d2 : ((fs pl.toNatClampNeg)).toInt = ((fs ((pl - (1 : Int32))).toNatClampNeg)).toInt := congrArg Int32.toInt c2
     omega
    have u4_25 : ((pl + (1 : Int32))).toInt + (((tl - pl) - (1 : Int32))).toInt ≤ L.toInt := by
     have r1 := rng32 pl
     have k2 : (1 : Int32).toInt = 1 := by decide
     have e3 := c_iadd (pl) ((1 : Int32))
     have r3 := rng32 ((pl + (1 : Int32)))
     rw [show (1 : Int32).toInt = 1 from by decide] at e3
     have r4 := rng32 tl
     have e5 := c_isub (tl) (pl)
     have r5 := rng32 ((tl - pl))
     have e6 := c_isub ((tl - pl)) ((1 : Int32))
     have r6 := rng32 (((tl - pl) - (1 : Int32)))
     rw [show (1 : Int32).toInt = 1 from by decide] at e6
     have r7 := rng32 L
     have k8 : (0 : Int32).toInt = 0 := by decide
     have r9 := rng32 ((fs pl.toNatClampNeg))
     have r10 := rng32 ((fs ((pl - (1 : Int32))).toNatClampNeg))
     have d0 : (0 : Int32).toInt < pl.toInt := Int32.lt_iff_toInt_lt.mp c0
     have d1 : pl.toInt < tl.toInt := Int32.lt_iff_toInt_lt.mp c1
     have d2 : ((fs pl.toNatClampNeg)).toInt = ((fs ((pl - (1 : Int32))).toNatClampNeg)).toInt := congrArg Int32.toInt c2
     omega
    have u5_25 : pl.toInt + (((tl - pl) - (1 : Int32))).toInt ≤ L.toInt := by
     have r1 := rng32 pl
     have r2 := rng32 tl
     have e3 := c_isub (tl) (pl)
     have r3 := rng32 ((tl - pl))
     have k4 : (1 : Int32).toInt = 1 := by decide
     have e5 := c_isub ((tl - pl)) ((1 : Int32))
     have r5 := rng32 (((tl - pl) - (1 : Int32)))
     rw [show (1 : Int32).toInt = 1 from by decide] at e5
     have r6 := rng32 L
     have k7 : (0 : Int32).toInt = 0 := by decide
     have r8 := rng32 ((fs pl.toNatClampNeg))
     have r9 := rng32 ((fs ((pl - (1 : Int32))).toNatClampNeg))
     have d0 : (0 : Int32).toInt < pl.toInt := Int32.lt_iff_toInt_lt.mp c0
     have d1 : pl.toInt < tl.toInt := Int32.lt_iff_toInt_lt.mp c1
     have d2 : ((fs pl.toNatClampNeg)).toInt = ((fs ((pl - (1 : Int32))).toNatClampNeg)).toInt := congrArg Int32.toInt c2
     omega
    obtain ⟨T25, h25, L25, X25, e25, N_25, K25, A25, st25⟩ := o_cp X24 hx hZ hown (o_m hw 96 rfl) (o_m hw 99 rfl) (o_m hw 97 rfl) (o_m hw 98 rfl) e24 At1 At1 rfl u1_25 u2_25 u3_25 u4_25 u5_25 (Fr.nil _) gt1 (g := (o_f10 m 53 pp pl [(.int ((tl - pl) - (1 : Int32))), (.int pl), (.ref tm), (.int (pl + (1 : Int32))), (.ref tm)])) rfl (by rw [hml]; rfl) rfl rfl (hb hby o_d16_53) (o_b rfl) (o_b rfl)
    obtain ⟨f25, d_f25⟩ : ∃ z : Nat → Int64, z = (fun i => if pl.toNatClampNeg ≤ i ∧ i < pl.toNatClampNeg + (((tl - pl) - (1 : Int32))).toNatClampNeg then xs (((pl + (1 : Int32))).toNatClampNeg + (i - pl.toNatClampNeg)) else xs i) := ⟨_, rfl⟩
    replace A25 : o_LA Z h25 tm L f25 := A25.congr fun i _ => by rw [d_f25]; exact (apply_ite Value.long _ _ _).symm
    have Y26 := Ep1.keep K25
    have Y27 := Er1.keep K25
    have Y28 := Ew1.keep K25
    have Y29 := F1_cpus.keep K25 (ninS ne3 nin0)
    have Y30 := F1_times.keep K25 (ninS ne3 nin0)
    have Y31 := F1_free.keep K25 (ninS ne3 nin0)
    have Y32 := F1_head.keep K25 (ninS ne3 nin0)
    have Y33 := F1_tail.keep K25 (ninS ne3 nin0)
    have Y34 := F1_lastAt.keep K25 (ninS ne3 nin0)
    have Y35 := F1_runs.keep K25 (ninS ne3 nin0)
    have Y36 := F1_firstKnown.keep K25 (ninS ne3 nin0)
    have Y37 := F1_watcher.keep K25 (ninS ne3 nin0)
    have Y38 := F1_watchedAs.keep K25 (ninS ne3 nin0)
    have Y39 := F1_changes.keep K25 (ninS ne3 nin0)
    have Y40 := F1_merged.keep K25 (ninS ne3 nin0)
    have Y41 := F1_gaveBack.keep K25 (ninS ne3 nin0)
    have Y42 := F1_recent.keep K25 (ninS ne3 nin0)
    have Y43 := Fn1.keep K25 (ninS ne4 nin0)
    have Y45 := Af1.keep K25 (ninS (Ne.symm ne14) nin0)
    have Y46 := Ar1.keep K25 (ninS (Ne.symm nt1) nin0)
    refine o_q T25 (o_f10 m 56 pp pl []) st25 ?_
    refine o_q T25 (o_f10 m 57 pp pl [(.ref pp)]) (fun _ k9 => XS.aloadN X25.here hx rfl (hb hby o_d16_56) rfl rfl k9) ?_
    refine o_gF X25 hx hZ e25 hby hown (o_m hw 46 rfl) Y31 o_d16_57 fun T47 X47 e47 => ?_
    refine o_q T47 (o_f10 m 61 pp pl [(.int pl), (.ref fr)]) (fun _ k9 => XS.iloadN X47.here hx rfl (hb hby o_d16_60) rfl k9) ?_
    refine o_iC (1 : Int32) X47 hx hby o_d16_61 rfl ?_
    refine o_q T47 (o_f10 m 63 pp pl [(.int (pl + (1 : Int32))), (.ref fr)]) (fun _ k9 => XS.iadd X47.here hx rfl (hb hby o_d16_62) rfl k9) ?_
    refine o_q T47 (o_f10 m 64 pp pl [(.ref pp), (.int (pl + (1 : Int32))), (.ref fr)]) (fun _ k9 => XS.aloadN X47.here hx rfl (hb hby o_d16_63) rfl rfl k9) ?_
    refine o_gF X47 hx hZ e47 hby hown (o_m hw 46 rfl) Y31 o_d16_64 fun T48 X48 e48 => ?_
    refine o_q T48 (o_f10 m 68 pp pl [(.int pl), (.ref fr), (.int (pl + (1 : Int32))), (.ref fr)]) (fun _ k9 => XS.iloadN X48.here hx rfl (hb hby o_d16_67) rfl k9) ?_
    refine o_q T48 (o_f10 m 69 pp pl [(.ref pp), (.int pl), (.ref fr), (.int (pl + (1 : Int32))), (.ref fr)]) (fun _ k9 => XS.aloadN X48.here hx rfl (hb hby o_d16_68) rfl rfl k9) ?_
    refine o_gF X48 hx hZ e48 hby hown (o_m hw 48 rfl) Y33 o_d16_69 fun T49 X49 e49 => ?_
    refine o_q T49 (o_f10 m 73 pp pl [(.int pl), (.int tl), (.int pl), (.ref fr), (.int (pl + (1 : Int32))), (.ref fr)]) (fun _ k9 => XS.iloadN X49.here hx rfl (hb hby o_d16_72) rfl k9) ?_
    refine o_q T49 (o_f10 m 74 pp pl [(.int (tl - pl)), (.int pl), (.ref fr), (.int (pl + (1 : Int32))), (.ref fr)]) (fun _ k9 => XS.isub X49.here hx rfl (hb hby o_d16_73) rfl k9) ?_
    refine o_iC (1 : Int32) X49 hx hby o_d16_74 rfl ?_
    refine o_q T49 (o_f10 m 76 pp pl [(.int ((tl - pl) - (1 : Int32))), (.int pl), (.ref fr), (.int (pl + (1 : Int32))), (.ref fr)]) (fun _ k9 => XS.isub X49.here hx rfl (hb hby o_d16_75) rfl k9) ?_
    have u1_50 : 0 ≤ ((pl + (1 : Int32))).toInt := by
     have r1 := rng32 pl
     have k2 : (1 : Int32).toInt = 1 := by decide
     have e3 := c_iadd (pl) ((1 : Int32))
     have r3 := rng32 ((pl + (1 : Int32)))
     rw [show (1 : Int32).toInt = 1 from by decide] at e3
     have k4 : (0 : Int32).toInt = 0 := by decide
     have r5 := rng32 tl
     have r6 := rng32 ((fs pl.toNatClampNeg))
     have r7 := rng32 ((fs ((pl - (1 : Int32))).toNatClampNeg))
     have d0 : (0 : Int32).toInt < pl.toInt := Int32.lt_iff_toInt_lt.mp c0
     have d1 : pl.toInt < tl.toInt := Int32.lt_iff_toInt_lt.mp c1
     have d2 : ((fs pl.toNatClampNeg)).toInt = ((fs ((pl - (1 : Int32))).toNatClampNeg)).toInt := congrArg Int32.toInt c2
     omega
    have u2_50 : 0 ≤ pl.toInt := by
     have r1 := rng32 pl
     have k2 : (0 : Int32).toInt = 0 := by decide
     have r3 := rng32 tl
     have r4 := rng32 ((fs pl.toNatClampNeg))
     have r5 := rng32 ((fs ((pl - (1 : Int32))).toNatClampNeg))
     have d0 : (0 : Int32).toInt < pl.toInt := Int32.lt_iff_toInt_lt.mp c0
     have d1 : pl.toInt < tl.toInt := Int32.lt_iff_toInt_lt.mp c1
     have d2 : ((fs pl.toNatClampNeg)).toInt = ((fs ((pl - (1 : Int32))).toNatClampNeg)).toInt := congrArg Int32.toInt c2
     omega
    have u3_50 : 0 ≤ (((tl - pl) - (1 : Int32))).toInt := by
     have r1 := rng32 tl
     have r2 := rng32 pl
     have e3 := c_isub (tl) (pl)
     have r3 := rng32 ((tl - pl))
     have k4 : (1 : Int32).toInt = 1 := by decide
     have e5 := c_isub ((tl - pl)) ((1 : Int32))
     have r5 := rng32 (((tl - pl) - (1 : Int32)))
     rw [show (1 : Int32).toInt = 1 from by decide] at e5
     have k6 : (0 : Int32).toInt = 0 := by decide
     have r7 := rng32 ((fs pl.toNatClampNeg))
     have r8 := rng32 ((fs ((pl - (1 : Int32))).toNatClampNeg))
     have d0 : (0 : Int32).toInt < pl.toInt := Int32.lt_iff_toInt_lt.mp c0
     have d1 : pl.toInt < tl.toInt := Int32.lt_iff_toInt_lt.mp c1
     have d2 : ((fs pl.toNatClampNeg)).toInt = ((fs ((pl - (1 : Int32))).toNatClampNeg)).toInt := congrArg Int32.toInt c2
     omega
    have u4_50 : ((pl + (1 : Int32))).toInt + (((tl - pl) - (1 : Int32))).toInt ≤ L.toInt := by
     have r1 := rng32 pl
     have k2 : (1 : Int32).toInt = 1 := by decide
     have e3 := c_iadd (pl) ((1 : Int32))
     have r3 := rng32 ((pl + (1 : Int32)))
     rw [show (1 : Int32).toInt = 1 from by decide] at e3
     have r4 := rng32 tl
     have e5 := c_isub (tl) (pl)
     have r5 := rng32 ((tl - pl))
     have e6 := c_isub ((tl - pl)) ((1 : Int32))
     have r6 := rng32 (((tl - pl) - (1 : Int32)))
     rw [show (1 : Int32).toInt = 1 from by decide] at e6
     have r7 := rng32 L
     have k8 : (0 : Int32).toInt = 0 := by decide
     have r9 := rng32 ((fs pl.toNatClampNeg))
     have r10 := rng32 ((fs ((pl - (1 : Int32))).toNatClampNeg))
     have d0 : (0 : Int32).toInt < pl.toInt := Int32.lt_iff_toInt_lt.mp c0
     have d1 : pl.toInt < tl.toInt := Int32.lt_iff_toInt_lt.mp c1
     have d2 : ((fs pl.toNatClampNeg)).toInt = ((fs ((pl - (1 : Int32))).toNatClampNeg)).toInt := congrArg Int32.toInt c2
     omega
    have u5_50 : pl.toInt + (((tl - pl) - (1 : Int32))).toInt ≤ L.toInt := by
     have r1 := rng32 pl
     have r2 := rng32 tl
     have e3 := c_isub (tl) (pl)
     have r3 := rng32 ((tl - pl))
     have k4 : (1 : Int32).toInt = 1 := by decide
     have e5 := c_isub ((tl - pl)) ((1 : Int32))
     have r5 := rng32 (((tl - pl) - (1 : Int32)))
     rw [show (1 : Int32).toInt = 1 from by decide] at e5
     have r6 := rng32 L
     have k7 : (0 : Int32).toInt = 0 := by decide
     have r8 := rng32 ((fs pl.toNatClampNeg))
     have r9 := rng32 ((fs ((pl - (1 : Int32))).toNatClampNeg))
     have d0 : (0 : Int32).toInt < pl.toInt := Int32.lt_iff_toInt_lt.mp c0
     have d1 : pl.toInt < tl.toInt := Int32.lt_iff_toInt_lt.mp c1
     have d2 : ((fs pl.toNatClampNeg)).toInt = ((fs ((pl - (1 : Int32))).toNatClampNeg)).toInt := congrArg Int32.toInt c2
     omega
    obtain ⟨T50, h50, L50, X50, e50, N_50, K50, A50, st50⟩ := o_cp X49 hx hZ hown (o_m hw 96 rfl) (o_m hw 99 rfl) (o_m hw 97 rfl) (o_m hw 98 rfl) e49 Y45 Y45 rfl u1_50 u2_50 u3_50 u4_50 u5_50 N_25 gf1 (g := (o_f10 m 76 pp pl [(.int ((tl - pl) - (1 : Int32))), (.int pl), (.ref fr), (.int (pl + (1 : Int32))), (.ref fr)])) rfl (by rw [hml]; rfl) rfl rfl (hb hby o_d16_76) (o_b rfl) (o_b rfl)
    obtain ⟨f50, d_f50⟩ : ∃ z : Nat → Int32, z = (fun i => if pl.toNatClampNeg ≤ i ∧ i < pl.toNatClampNeg + (((tl - pl) - (1 : Int32))).toNatClampNeg then fs (((pl + (1 : Int32))).toNatClampNeg + (i - pl.toNatClampNeg)) else fs i) := ⟨_, rfl⟩
    replace A50 : o_IA Z h50 fr L f50 := A50.congr fun i _ => by rw [d_f50]; exact (apply_ite Value.int _ _ _).symm
    have Y51 := Y26.keep K50
    have Y52 := Y27.keep K50
    have Y53 := Y28.keep K50
    have Y54 := Y29.keep K50 (ninS ne5 nin0)
    have Y55 := Y30.keep K50 (ninS ne5 nin0)
    have Y56 := Y31.keep K50 (ninS ne5 nin0)
    have Y57 := Y32.keep K50 (ninS ne5 nin0)
    have Y58 := Y33.keep K50 (ninS ne5 nin0)
    have Y59 := Y34.keep K50 (ninS ne5 nin0)
    have Y60 := Y35.keep K50 (ninS ne5 nin0)
    have Y61 := Y36.keep K50 (ninS ne5 nin0)
    have Y62 := Y37.keep K50 (ninS ne5 nin0)
    have Y63 := Y38.keep K50 (ninS ne5 nin0)
    have Y64 := Y39.keep K50 (ninS ne5 nin0)
    have Y65 := Y40.keep K50 (ninS ne5 nin0)
    have Y66 := Y41.keep K50 (ninS ne5 nin0)
    have Y67 := Y42.keep K50 (ninS ne5 nin0)
    have Y68 := Y43.keep K50 (ninS ne6 nin0)
    have Y69 := A25.keep K50 (ninS ne14 nin0)
    have Y71 := Y46.keep K50 (ninS (Ne.symm ne15) nin0)
    refine o_q T50 (o_f10 m 79 pp pl []) st50 ?_
    refine o_q T50 (o_f10 m 80 pp pl [(.ref pp)]) (fun _ k9 => XS.aloadN X50.here hx rfl (hb hby o_d16_79) rfl rfl k9) ?_
    refine o_q T50 (o_f10 m 81 pp pl [(.ref pp), (.ref pp)]) (fun _ k9 => XS.dup X50.here hx rfl (hb hby o_d16_80) rfl rfl k9) ?_
    refine o_gF X50 hx hZ e50 hby hown (o_m hw 48 rfl) Y58 o_d16_81 fun T72 X72 e72 => ?_
    refine o_iC (1 : Int32) X72 hx hby o_d16_84 rfl ?_
    refine o_q T72 (o_f10 m 86 pp pl [(.int (tl - (1 : Int32))), (.ref pp)]) (fun _ k9 => XS.isub X72.here hx rfl (hb hby o_d16_85) rfl k9) ?_
    refine o_pF X72 hx hZ e72 hby (ty := .int) hown (o_m hw 48 rfl) Y58 Y51 (Or.inl (o_m hw 49 rfl)) (o_m hw 8 rfl) (by decide) rfl rfl o_d16_86 fun T73 h73 X73 e73 W73 => ?_
    have Fw73 := Y58.same W73
    have N_73 := Fr.snoc X73 N_50 gp1
    have Y74 := Y51.wr W73
    have Y75 := Y52.wr W73
    have Y76 := Y53.wr W73
    have Y77 := Y54.other W73 (o_sn (Or.inr (o_m hw 41 rfl)) (Or.inl (o_m hw 49 rfl)))
    have Y78 := Y55.other W73 (o_sn (Or.inl (o_m hw 44 rfl)) (Or.inl (o_m hw 49 rfl)))
    have Y79 := Y56.other W73 (o_sn (Or.inl (o_m hw 47 rfl)) (Or.inl (o_m hw 49 rfl)))
    have Y80 := Y57.other W73 (o_sn (Or.inl (o_m hw 95 rfl)) (Or.inl (o_m hw 49 rfl)))
    have Y82 := Y59.other W73 (o_sn (Or.inl (o_m hw 149 rfl)) (Or.inl (o_m hw 49 rfl)))
    have Y83 := Y60.other W73 (o_sn (Or.inr (o_m hw 26 rfl)) (Or.inl (o_m hw 49 rfl)))
    have Y84 := Y61.other W73 (o_sn (Or.inl (o_m hw 66 rfl)) (Or.inl (o_m hw 49 rfl)))
    have Y85 := Y62.other W73 (o_sn (Or.inl (o_m hw 39 rfl)) (Or.inl (o_m hw 49 rfl)))
    have Y86 := Y63.other W73 (o_sn (Or.inl (o_m hw 68 rfl)) (Or.inl (o_m hw 49 rfl)))
    have Y87 := Y64.other W73 (o_sn (Or.inl (o_m hw 80 rfl)) (Or.inl (o_m hw 49 rfl)))
    have Y88 := Y65.other W73 (o_sn (Or.inl (o_m hw 177 rfl)) (Or.inl (o_m hw 49 rfl)))
    have Y89 := Y66.other W73 (o_sn (Or.inl (o_m hw 179 rfl)) (Or.inl (o_m hw 49 rfl)))
    have Y90 := Y67.other W73 (o_sn (Or.inr (o_m hw 35 rfl)) (Or.inl (o_m hw 49 rfl)))
    have Y91 := Y68.other W73 (Or.inl (Ne.symm ne2))
    have Y92 := Y69.other W73 (Ne.symm ne3)
    have Y93 := A50.other W73 (Ne.symm ne5)
    have Y94 := Y71.other W73 (Ne.symm ne7)
    refine o_q T73 (o_f10 m 90 pp pl [(.ref pp)]) (fun _ k9 => XS.aloadN X73.here hx rfl (hb hby o_d16_89) rfl rfl k9) ?_
    refine o_gF X73 hx hZ e73 hby hown (o_m hw 25 rfl) Y83 o_d16_90 fun T95 X95 e95 => ?_
    refine o_q T95 (o_f10 m 94 pp pl [(.int pl), (.ref ru)]) (fun _ k9 => XS.iloadN X95.here hx rfl (hb hby o_d16_93) rfl k9) ?_
    obtain ⟨v96, T96, L96, hQ96, X96, st96⟩ := o_callV X95 hx hZ e95 hown (o_m hw 160 rfl) (o_m hw 161 rfl) (o_m hw 163 rfl) (o_m hw 162 rfl) (by decide) (b := ru) Y75 (o_m hw 164 rfl) (o_m hw 18 rfl) (o_k28_4 l Z a0 hw ru pl h73 Y91) (g := (o_f10 m 94 pp pl [(.int pl), (.ref ru)])) rfl (by rw [hml]; rfl) rfl (argsL := [(.int pl)]) (rest := []) rfl (lenOf o_pd3 rfl) rfl (hb hby o_d16_94) (o_b rfl) (o_b rfl) (o_b rfl) (o_b rfl)
    obtain ⟨rfl, rfl, e96⟩ := hQ96
    rw [List.append_nil] at X96
    refine o_q T96 (o_f10 m 97 pp pl []) st96 ?_
    have hP97 : o_Pr Z n0 pp rc ru wa tm fr (tl - (1 : Int32)) la L ch gb f25 f50 rs h73 := ⟨Y74, Y75, Y76, Y77, Y78, Y79, Y80, Fw73, Y82, Y83, Y84, Y85, Y86, Y87, Y88, Y89, Y90, Y91, Y92, Y93, Y94, nt1, wl1, gp1, gt1, gf1, gr1, gu1⟩
    have q99 : 1 ≤ ((tl - (1 : Int32))).toInt := by
     have r1 := rng32 pl
     have k2 : (1 : Int32).toInt = 1 := by decide
     have e3 := c_iadd (pl) ((1 : Int32))
     have r3 := rng32 ((pl + (1 : Int32)))
     rw [show (1 : Int32).toInt = 1 from by decide] at e3
     have r4 := rng32 tl
     have e5 := c_isub (tl) (pl)
     have r5 := rng32 ((tl - pl))
     have e6 := c_isub ((tl - pl)) ((1 : Int32))
     have r6 := rng32 (((tl - pl) - (1 : Int32)))
     rw [show (1 : Int32).toInt = 1 from by decide] at e6
     have e7 := c_isub (tl) ((1 : Int32))
     have r7 := rng32 ((tl - (1 : Int32)))
     rw [show (1 : Int32).toInt = 1 from by decide] at e7
     have r8 := rng32 L
     have k9 : (0 : Int32).toInt = 0 := by decide
     have r10 := rng32 ((fs pl.toNatClampNeg))
     have r11 := rng32 ((fs ((pl - (1 : Int32))).toNatClampNeg))
     have d0 : (0 : Int32).toInt < pl.toInt := Int32.lt_iff_toInt_lt.mp c0
     have d1 : pl.toInt < tl.toInt := Int32.lt_iff_toInt_lt.mp c1
     have d2 : ((fs pl.toNatClampNeg)).toInt = ((fs ((pl - (1 : Int32))).toNatClampNeg)).toInt := congrArg Int32.toInt c2
     omega
    have q100 : ((tl - (1 : Int32))).toInt ≤ tl.toInt := by
     have r1 := rng32 pl
     have k2 : (1 : Int32).toInt = 1 := by decide
     have e3 := c_iadd (pl) ((1 : Int32))
     have r3 := rng32 ((pl + (1 : Int32)))
     rw [show (1 : Int32).toInt = 1 from by decide] at e3
     have r4 := rng32 tl
     have e5 := c_isub (tl) (pl)
     have r5 := rng32 ((tl - pl))
     have e6 := c_isub ((tl - pl)) ((1 : Int32))
     have r6 := rng32 (((tl - pl) - (1 : Int32)))
     rw [show (1 : Int32).toInt = 1 from by decide] at e6
     have e7 := c_isub (tl) ((1 : Int32))
     have r7 := rng32 ((tl - (1 : Int32)))
     rw [show (1 : Int32).toInt = 1 from by decide] at e7
     have r8 := rng32 L
     have k9 : (0 : Int32).toInt = 0 := by decide
     have r10 := rng32 ((fs pl.toNatClampNeg))
     have r11 := rng32 ((fs ((pl - (1 : Int32))).toNatClampNeg))
     have d0 : (0 : Int32).toInt < pl.toInt := Int32.lt_iff_toInt_lt.mp c0
     have d1 : pl.toInt < tl.toInt := Int32.lt_iff_toInt_lt.mp c1
     have d2 : ((fs pl.toNatClampNeg)).toInt = ((fs ((pl - (1 : Int32))).toNatClampNeg)).toInt := congrArg Int32.toInt c2
     omega
    have ma98 : ((pl + (1 : Int32))).toNatClampNeg = pl.toNatClampNeg + 1 := by
     have r1 := rng32 pl
     have k2 : (1 : Int32).toInt = 1 := by decide
     have e3 := c_iadd (pl) ((1 : Int32))
     have r3 := rng32 ((pl + (1 : Int32)))
     rw [show (1 : Int32).toInt = 1 from by decide] at e3
     have r4 := rng32 tl
     have e5 := c_isub (tl) (pl)
     have r5 := rng32 ((tl - pl))
     have e6 := c_isub ((tl - pl)) ((1 : Int32))
     have r6 := rng32 (((tl - pl) - (1 : Int32)))
     rw [show (1 : Int32).toInt = 1 from by decide] at e6
     have e7 := c_isub (tl) ((1 : Int32))
     have r7 := rng32 ((tl - (1 : Int32)))
     rw [show (1 : Int32).toInt = 1 from by decide] at e7
     have r8 := rng32 L
     have k9 : (0 : Int32).toInt = 0 := by decide
     have r10 := rng32 ((fs pl.toNatClampNeg))
     have r11 := rng32 ((fs ((pl - (1 : Int32))).toNatClampNeg))
     have d0 : (0 : Int32).toInt < pl.toInt := Int32.lt_iff_toInt_lt.mp c0
     have d1 : pl.toInt < tl.toInt := Int32.lt_iff_toInt_lt.mp c1
     have d2 : ((fs pl.toNatClampNeg)).toInt = ((fs ((pl - (1 : Int32))).toNatClampNeg)).toInt := congrArg Int32.toInt c2
     have n0 := o_nat (tl) (by omega)
     have n1 := o_nat (pl) (by omega)
     have n2 := o_nat ((pl + (1 : Int32))) (by omega)
     have n3 := o_nat (((tl - pl) - (1 : Int32))) (by omega)
     have n4 := o_nat ((tl - (1 : Int32))) (by omega)
     omega
    have mc98 : (((tl - pl) - (1 : Int32))).toNatClampNeg + pl.toNatClampNeg + 1 = tl.toNatClampNeg := by
     have r1 := rng32 pl
     have k2 : (1 : Int32).toInt = 1 := by decide
     have e3 := c_iadd (pl) ((1 : Int32))
     have r3 := rng32 ((pl + (1 : Int32)))
     rw [show (1 : Int32).toInt = 1 from by decide] at e3
     have r4 := rng32 tl
     have e5 := c_isub (tl) (pl)
     have r5 := rng32 ((tl - pl))
     have e6 := c_isub ((tl - pl)) ((1 : Int32))
     have r6 := rng32 (((tl - pl) - (1 : Int32)))
     rw [show (1 : Int32).toInt = 1 from by decide] at e6
     have e7 := c_isub (tl) ((1 : Int32))
     have r7 := rng32 ((tl - (1 : Int32)))
     rw [show (1 : Int32).toInt = 1 from by decide] at e7
     have r8 := rng32 L
     have k9 : (0 : Int32).toInt = 0 := by decide
     have r10 := rng32 ((fs pl.toNatClampNeg))
     have r11 := rng32 ((fs ((pl - (1 : Int32))).toNatClampNeg))
     have d0 : (0 : Int32).toInt < pl.toInt := Int32.lt_iff_toInt_lt.mp c0
     have d1 : pl.toInt < tl.toInt := Int32.lt_iff_toInt_lt.mp c1
     have d2 : ((fs pl.toNatClampNeg)).toInt = ((fs ((pl - (1 : Int32))).toNatClampNeg)).toInt := congrArg Int32.toInt c2
     have n0 := o_nat (tl) (by omega)
     have n1 := o_nat (pl) (by omega)
     have n2 := o_nat ((pl + (1 : Int32))) (by omega)
     have n3 := o_nat (((tl - pl) - (1 : Int32))) (by omega)
     have n4 := o_nat ((tl - (1 : Int32))) (by omega)
     omega
    have md98 : ((tl - (1 : Int32))).toNatClampNeg = tl.toNatClampNeg - 1 := by
     have r1 := rng32 pl
     have k2 : (1 : Int32).toInt = 1 := by decide
     have e3 := c_iadd (pl) ((1 : Int32))
     have r3 := rng32 ((pl + (1 : Int32)))
     rw [show (1 : Int32).toInt = 1 from by decide] at e3
     have r4 := rng32 tl
     have e5 := c_isub (tl) (pl)
     have r5 := rng32 ((tl - pl))
     have e6 := c_isub ((tl - pl)) ((1 : Int32))
     have r6 := rng32 (((tl - pl) - (1 : Int32)))
     rw [show (1 : Int32).toInt = 1 from by decide] at e6
     have e7 := c_isub (tl) ((1 : Int32))
     have r7 := rng32 ((tl - (1 : Int32)))
     rw [show (1 : Int32).toInt = 1 from by decide] at e7
     have r8 := rng32 L
     have k9 : (0 : Int32).toInt = 0 := by decide
     have r10 := rng32 ((fs pl.toNatClampNeg))
     have r11 := rng32 ((fs ((pl - (1 : Int32))).toNatClampNeg))
     have d0 : (0 : Int32).toInt < pl.toInt := Int32.lt_iff_toInt_lt.mp c0
     have d1 : pl.toInt < tl.toInt := Int32.lt_iff_toInt_lt.mp c1
     have d2 : ((fs pl.toNatClampNeg)).toInt = ((fs ((pl - (1 : Int32))).toNatClampNeg)).toInt := congrArg Int32.toInt c2
     have n0 := o_nat (tl) (by omega)
     have n1 := o_nat (pl) (by omega)
     have n2 := o_nat ((pl + (1 : Int32))) (by omega)
     have n3 := o_nat (((tl - pl) - (1 : Int32))) (by omega)
     have n4 := o_nat ((tl - (1 : Int32))) (by omega)
     omega
    have me98 : pl.toNatClampNeg < tl.toNatClampNeg := by
     have r1 := rng32 pl
     have k2 : (1 : Int32).toInt = 1 := by decide
     have e3 := c_iadd (pl) ((1 : Int32))
     have r3 := rng32 ((pl + (1 : Int32)))
     rw [show (1 : Int32).toInt = 1 from by decide] at e3
     have r4 := rng32 tl
     have e5 := c_isub (tl) (pl)
     have r5 := rng32 ((tl - pl))
     have e6 := c_isub ((tl - pl)) ((1 : Int32))
     have r6 := rng32 (((tl - pl) - (1 : Int32)))
     rw [show (1 : Int32).toInt = 1 from by decide] at e6
     have e7 := c_isub (tl) ((1 : Int32))
     have r7 := rng32 ((tl - (1 : Int32)))
     rw [show (1 : Int32).toInt = 1 from by decide] at e7
     have r8 := rng32 L
     have k9 : (0 : Int32).toInt = 0 := by decide
     have r10 := rng32 ((fs pl.toNatClampNeg))
     have r11 := rng32 ((fs ((pl - (1 : Int32))).toNatClampNeg))
     have d0 : (0 : Int32).toInt < pl.toInt := Int32.lt_iff_toInt_lt.mp c0
     have d1 : pl.toInt < tl.toInt := Int32.lt_iff_toInt_lt.mp c1
     have d2 : ((fs pl.toNatClampNeg)).toInt = ((fs ((pl - (1 : Int32))).toNatClampNeg)).toInt := congrArg Int32.toInt c2
     have n0 := o_nat (tl) (by omega)
     have n1 := o_nat (pl) (by omega)
     have n2 := o_nat ((pl + (1 : Int32))) (by omega)
     have n3 := o_nat (((tl - pl) - (1 : Int32))) (by omega)
     have n4 := o_nat ((tl - (1 : Int32))) (by omega)
     omega
    have mf98 : 1 ≤ pl.toNatClampNeg := by
     have r1 := rng32 pl
     have k2 : (1 : Int32).toInt = 1 := by decide
     have e3 := c_iadd (pl) ((1 : Int32))
     have r3 := rng32 ((pl + (1 : Int32)))
     rw [show (1 : Int32).toInt = 1 from by decide] at e3
     have r4 := rng32 tl
     have e5 := c_isub (tl) (pl)
     have r5 := rng32 ((tl - pl))
     have e6 := c_isub ((tl - pl)) ((1 : Int32))
     have r6 := rng32 (((tl - pl) - (1 : Int32)))
     rw [show (1 : Int32).toInt = 1 from by decide] at e6
     have e7 := c_isub (tl) ((1 : Int32))
     have r7 := rng32 ((tl - (1 : Int32)))
     rw [show (1 : Int32).toInt = 1 from by decide] at e7
     have r8 := rng32 L
     have k9 : (0 : Int32).toInt = 0 := by decide
     have r10 := rng32 ((fs pl.toNatClampNeg))
     have r11 := rng32 ((fs ((pl - (1 : Int32))).toNatClampNeg))
     have d0 : (0 : Int32).toInt < pl.toInt := Int32.lt_iff_toInt_lt.mp c0
     have d1 : pl.toInt < tl.toInt := Int32.lt_iff_toInt_lt.mp c1
     have d2 : ((fs pl.toNatClampNeg)).toInt = ((fs ((pl - (1 : Int32))).toNatClampNeg)).toInt := congrArg Int32.toInt c2
     have n0 := o_nat (tl) (by omega)
     have n1 := o_nat (pl) (by omega)
     have n2 := o_nat ((pl + (1 : Int32))) (by omega)
     have n3 := o_nat (((tl - pl) - (1 : Int32))) (by omega)
     have n4 := o_nat ((tl - (1 : Int32))) (by omega)
     omega
    have mg98 : ((pl - (1 : Int32))).toNatClampNeg = pl.toNatClampNeg - 1 := by
     have r1 := rng32 pl
     have k2 : (1 : Int32).toInt = 1 := by decide
     have e3 := c_iadd (pl) ((1 : Int32))
     have r3 := rng32 ((pl + (1 : Int32)))
     rw [show (1 : Int32).toInt = 1 from by decide] at e3
     have r4 := rng32 tl
     have e5 := c_isub (tl) (pl)
     have r5 := rng32 ((tl - pl))
     have e6 := c_isub ((tl - pl)) ((1 : Int32))
     have r6 := rng32 (((tl - pl) - (1 : Int32)))
     rw [show (1 : Int32).toInt = 1 from by decide] at e6
     have e7 := c_isub (tl) ((1 : Int32))
     have r7 := rng32 ((tl - (1 : Int32)))
     rw [show (1 : Int32).toInt = 1 from by decide] at e7
     have r8 := rng32 L
     have e9 := c_isub (pl) ((1 : Int32))
     have r9 := rng32 ((pl - (1 : Int32)))
     rw [show (1 : Int32).toInt = 1 from by decide] at e9
     have k10 : (0 : Int32).toInt = 0 := by decide
     have r11 := rng32 ((fs pl.toNatClampNeg))
     have r12 := rng32 ((fs ((pl - (1 : Int32))).toNatClampNeg))
     have d0 : (0 : Int32).toInt < pl.toInt := Int32.lt_iff_toInt_lt.mp c0
     have d1 : pl.toInt < tl.toInt := Int32.lt_iff_toInt_lt.mp c1
     have d2 : ((fs pl.toNatClampNeg)).toInt = ((fs ((pl - (1 : Int32))).toNatClampNeg)).toInt := congrArg Int32.toInt c2
     have n0 := o_nat (pl) (by omega)
     have n1 := o_nat ((pl - (1 : Int32))) (by omega)
     omega
    have F98 : ∀ i, f50 i = if pl.toNatClampNeg ≤ i ∧ i + 1 < tl.toNatClampNeg then fs (i + 1) else fs i := by
     intro i
     rw [d_f50]
     dsimp only
     rw [ma98]
     by_cases z2 : pl.toNatClampNeg ≤ i ∧ i + 1 < tl.toNatClampNeg
     ·rw [if_pos z2, if_pos (by omega), show pl.toNatClampNeg + 1 + (i - pl.toNatClampNeg) = i + 1 by omega]
     ·rw [if_neg z2, if_neg (by omega)]
    have G98 : ∀ i, f25 i = if pl.toNatClampNeg ≤ i ∧ i + 1 < tl.toNatClampNeg then xs (i + 1) else xs i := by
     intro i
     rw [d_f25]
     dsimp only
     rw [ma98]
     by_cases z2 : pl.toNatClampNeg ≤ i ∧ i + 1 < tl.toNatClampNeg
     ·rw [if_pos z2, if_pos (by omega), show pl.toNatClampNeg + 1 + (i - pl.toNatClampNeg) = i + 1 by omega]
     ·rw [if_neg z2, if_neg (by omega)]
    obtain ⟨P98, X98, Y98⟩ := o_del (A := pl.toNatClampNeg) (TL := tl.toNatClampNeg) mf98 me98 (by rw [← mg98]; exact c2) F98 G98
    refine o_retV X96 hx hlk hret (hb hby o_d16_97) ?_ (o_b rfl) (o_b rfl)
    rw [e96]
    exact ⟨(tl - (1 : Int32)), f25, f50, rfl, N_73, hP97, q99, q100, (by rw [md98]; exact P98), X98, (by rw [md98]; exact Y98)⟩
   ·refine o_cY 97 X20 hx hby o_d16_30 (feq c2).2 ?_
    have hP101 : o_Pr Z n0 pp rc ru wa tm fr tl la L ch gb xs fs rs h0 := ⟨Ep1, Er1, Ew1, F1_cpus, F1_times, F1_free, F1_head, F1_tail, F1_lastAt, F1_runs, F1_firstKnown, F1_watcher, F1_watchedAs, F1_changes, F1_merged, F1_gaveBack, F1_recent, Fn1, At1, Af1, Ar1, nt1, wl1, gp1, gt1, gf1, gr1, gu1⟩
    have q102 : tl.toInt ≤ tl.toInt := by
     have k1 : (0 : Int32).toInt = 0 := by decide
     have r2 := rng32 pl
     have r3 := rng32 tl
     have r4 := rng32 ((fs pl.toNatClampNeg))
     have r5 := rng32 ((fs ((pl - (1 : Int32))).toNatClampNeg))
     have d0 : (0 : Int32).toInt < pl.toInt := Int32.lt_iff_toInt_lt.mp c0
     have d1 : pl.toInt < tl.toInt := Int32.lt_iff_toInt_lt.mp c1
     have d2 : ¬ (((fs pl.toNatClampNeg)).toInt = ((fs ((pl - (1 : Int32))).toNatClampNeg)).toInt) := fun q => c2 (Int32.toInt_inj.mp q)
     omega
    refine o_retV X20 hx hlk hret (hb hby o_d16_97) ?_ (o_b rfl) (o_b rfl)
    rw [e20]
    exact ⟨tl, xs, fs, rfl, Fr.nil _, hP101, i1, q102, (fun i hi => ⟨i, hi, rfl⟩), rfl, (fun q _ => ⟨q, rfl, fun i hi => ⟨i, hi, rfl⟩⟩)⟩
  ·refine o_cY 97 X17 hx hby o_d16_13 (flt c1).2.1 ?_
   have hP103 : o_Pr Z n0 pp rc ru wa tm fr tl la L ch gb xs fs rs h0 := ⟨Ep1, Er1, Ew1, F1_cpus, F1_times, F1_free, F1_head, F1_tail, F1_lastAt, F1_runs, F1_firstKnown, F1_watcher, F1_watchedAs, F1_changes, F1_merged, F1_gaveBack, F1_recent, Fn1, At1, Af1, Ar1, nt1, wl1, gp1, gt1, gf1, gr1, gu1⟩
   have q104 : tl.toInt ≤ tl.toInt := by
    have k1 : (0 : Int32).toInt = 0 := by decide
    have r2 := rng32 pl
    have r3 := rng32 tl
    have d0 : (0 : Int32).toInt < pl.toInt := Int32.lt_iff_toInt_lt.mp c0
    have d1 : ¬ (pl.toInt < tl.toInt) := mt Int32.lt_iff_toInt_lt.mpr c1
    omega
   refine o_retV X17 hx hlk hret (hb hby o_d16_97) ?_ (o_b rfl) (o_b rfl)
   rw [e17]
   exact ⟨tl, xs, fs, rfl, Fr.nil _, hP103, i1, q104, (fun i hi => ⟨i, hi, rfl⟩), rfl, (fun q _ => ⟨q, rfl, fun i hi => ⟨i, hi, rfl⟩⟩)⟩
 ·refine o_cY 97 X16 hx hby o_d16_5 (flt c0).2.2.2 ?_
  have hP105 : o_Pr Z n0 pp rc ru wa tm fr tl la L ch gb xs fs rs h0 := ⟨Ep1, Er1, Ew1, F1_cpus, F1_times, F1_free, F1_head, F1_tail, F1_lastAt, F1_runs, F1_firstKnown, F1_watcher, F1_watchedAs, F1_changes, F1_merged, F1_gaveBack, F1_recent, Fn1, At1, Af1, Ar1, nt1, wl1, gp1, gt1, gf1, gr1, gu1⟩
  have q106 : tl.toInt ≤ tl.toInt := by
   have k1 : (0 : Int32).toInt = 0 := by decide
   have r2 := rng32 pl
   have d0 : ¬ ((0 : Int32).toInt < pl.toInt) := mt Int32.lt_iff_toInt_lt.mpr c0
   omega
  refine o_retV X16 hx hlk hret (hb hby o_d16_97) ?_ (o_b rfl) (o_b rfl)
  rw [e16]
  exact ⟨tl, xs, fs, rfl, Fr.nil _, hP105, i1, q106, (fun i hi => ⟨i, hi, rfl⟩), rfl, (fun q _ => ⟨q, rfl, fun i hi => ⟨i, hi, rfl⟩⟩)⟩
theorem o_d10_0 : decode o_y8 0 = .ok (.iload_n 1, 1) := by decide +kernel
theorem o_d10_1 : decode o_y8 1 = .ok (.aload_n 0, 1) := by decide +kernel
theorem o_d10_2 : decode o_y8 2 = .ok (.getfield 46, 3) := by decide +kernel
theorem o_d10_5 : decode o_y8 5 = .ok (.arraylength, 1) := by decide +kernel
theorem o_d10_6 : decode o_y8 6 = .ok (.if_icmp .gt 5, 3) := by decide +kernel
theorem o_d10_9 : decode o_y8 9 = .ok (.iconst 0, 1) := by decide +kernel
theorem o_d10_10 : decode o_y8 10 = .ok (.ireturn, 1) := by decide +kernel
theorem o_pn10 : plainFor (⟨o_n1, "room", "(I)I"⟩ : MethodName) = true := plainFor_of_name (by first | (simp [plainName, overriddenIn]; done) | decide +kernel)
set_option maxRecDepth 65536 in
set_option maxHeartbeats 40000000 in
theorem o_room0 (l : Launch) (Z : State) (a0 : Array Value) (hw : ∀ d ∈ tables_1, d.before a0 Z = true) (n0 : Nat) (pp rc ru wa tm fr : Addr) (tl la L : Int32) (ch gb : Int64) (xs : Nat → Int64) (fs : Nat → Int32) (rs : Nat → Int64) (len : Int32) (h0 : Heap) (hP : o_Pr Z n0 pp rc ru wa tm fr tl la L ch gb xs fs rs h0) (r1 : len.toInt ≤ L.toInt) :
  o_C l (⟨o_n1, "room", "(I)I"⟩ : MethodName) o_y8 6 (some .int) (o_R 0 0 0 0) Z h0 #[(.ref pp), (.int len)] (o_P (some (.int (0 : Int32))) h0) := by
 refine o_body o_pn10 ?_
 intro p e s m below meth c s₁ hx hby hml hZ hown hnm hret hlk X0 e0
 refine o_cast (f' := (o_f11 m 0 pp len [])) (by first | (simp [entryFrame, mkF, argsToLocals, Value.category, maxLocals]; done) | rfl) ?_
 obtain ⟨Ep1, Er1, Ew1, F1_cpus, F1_times, F1_free, F1_head, F1_tail, F1_lastAt, F1_runs, F1_firstKnown, F1_watcher, F1_watchedAs, F1_changes, F1_merged, F1_gaveBack, F1_recent, Fn1, At1, Af1, Ar1, nt1, wl1, gp1, gt1, gf1, gr1, gu1⟩ := hP
 refine o_q s₁ (o_f11 m 1 pp len [(.int len)]) (fun _ k9 => XS.iloadN X0.here hx rfl (hb hby o_d10_0) rfl k9) ?_
 refine o_q s₁ (o_f11 m 2 pp len [(.ref pp), (.int len)]) (fun _ k9 => XS.aloadN X0.here hx rfl (hb hby o_d10_1) rfl rfl k9) ?_
 refine o_gF X0 hx hZ e0 hby hown (o_m hw 43 rfl) F1_times o_d10_2 fun T16 X16 e16 => ?_
 refine o_q T16 (o_f11 m 6 pp len [(.int L), (.int len)]) (fun _ k9 => o_len X16 hx hZ e16 At1 (g := (o_f11 m 5 pp len [(.ref tm), (.int len)])) rfl rfl (hb hby o_d10_5) _ k9) ?_
 refine o_cN X16 hx hby o_d10_6 (flt (mt Int32.lt_iff_toInt_lt.mp (Int.not_lt.mpr r1))).2.2.1 ?_
 refine o_iC (0 : Int32) X16 hx hby o_d10_9 rfl ?_
 exact o_retI X16 hx hlk hret (hb hby o_d10_10) ⟨rfl, rfl, e16⟩ (by decide) (by decide)
theorem o_d27_0 : decode o_y9 0 = .ok (.aload_n 0, 1) := by decide +kernel
theorem o_d27_1 : decode o_y9 1 = .ok (.aconst_null, 1) := by decide +kernel
theorem o_d27_2 : decode o_y9 2 = .ok (.putfield 15, 3) := by decide +kernel
theorem o_d27_5 : decode o_y9 5 = .ok (.return_, 1) := by decide +kernel
theorem o_pn27 : plainFor (⟨o_n3, "moved", "()V"⟩ : MethodName) = true := plainFor_of_name (by first | (simp [plainName, overriddenIn]; done) | decide +kernel)
set_option maxRecDepth 65536 in
set_option maxHeartbeats 40000000 in
theorem o_moved (l : Launch) (Z : State) (a0 : Array Value) (hw : ∀ d ∈ tables_1, d.before a0 Z = true) (n0 : Nat) (pp rc ru wa tm fr : Addr) (tl la L : Int32) (ch gb : Int64) (xs : Nat → Int64) (fs : Nat → Int32) (rs : Nat → Int64) (h0 : Heap) (hP : o_Pr Z n0 pp rc ru wa tm fr tl la L ch gb xs fs rs h0) :
  o_C l (⟨o_n3, "moved", "()V"⟩ : MethodName) o_y9 1 none (o_R 0 0 0 0) Z h0 #[(.ref ru)] (fun v h Ls => v = none ∧ Fr n0 Ls ∧ o_Pr Z n0 pp rc ru wa tm fr tl la L ch gb xs fs rs h) := by
 refine o_body o_pn27 ?_
 intro p e s m below meth c s₁ hx hby hml hZ hown hnm hret hlk X0 e0
 refine o_cast (f' := (o_f12 m 0 ru [])) (by first | (simp [entryFrame, mkF, argsToLocals, Value.category, maxLocals]; done) | rfl) ?_
 obtain ⟨Ep1, Er1, Ew1, F1_cpus, F1_times, F1_free, F1_head, F1_tail, F1_lastAt, F1_runs, F1_firstKnown, F1_watcher, F1_watchedAs, F1_changes, F1_merged, F1_gaveBack, F1_recent, Fn1, At1, Af1, Ar1, nt1, wl1, gp1, gt1, gf1, gr1, gu1⟩ := hP
 have ne2 : o_ne pp ru := Ep1.ne Er1 (by decide)
 have ne4 : o_ne ru tm := At1.neExa Er1 (o_m hw 17 rfl)
 have ne6 : o_ne ru fr := Af1.neExa Er1 (o_m hw 17 rfl)
 have ne8 : o_ne ru rc := Ar1.neExa Er1 (o_m hw 17 rfl)
 refine o_q s₁ (o_f12 m 1 ru [(.ref ru)]) (fun _ k9 => XS.aloadN X0.here hx rfl (hb hby o_d27_0) rfl rfl k9) ?_
 refine o_q s₁ (o_f12 m 2 ru [.null, (.ref ru)]) (fun _ k9 => XS.aconstNull X0.here hx rfl (hb hby o_d27_1) k9) ?_
 refine o_pF X0 hx hZ e0 hby (ty := (.array (.array .long))) hown (o_m hw 105 rfl) Fn1 Er1 (Or.inl (o_m hw 106 rfl)) (o_m hw 17 rfl) (by decide) rfl rfl o_d27_2 fun T16 h16 X16 e16 W16 => ?_
 have Fw16 := Fn1.same W16
 have N_16 := Fr.snoc X16 (Fr.nil _) gu1
 have Y17 := Ep1.wr W16
 have Y18 := Er1.wr W16
 have Y19 := Ew1.wr W16
 have Y20 := F1_cpus.other W16 (Or.inl ne2)
 have Y21 := F1_times.other W16 (Or.inl ne2)
 have Y22 := F1_free.other W16 (Or.inl ne2)
 have Y23 := F1_head.other W16 (Or.inl ne2)
 have Y24 := F1_tail.other W16 (Or.inl ne2)
 have Y25 := F1_lastAt.other W16 (Or.inl ne2)
 have Y26 := F1_runs.other W16 (Or.inl ne2)
 have Y27 := F1_firstKnown.other W16 (Or.inl ne2)
 have Y28 := F1_watcher.other W16 (Or.inl ne2)
 have Y29 := F1_watchedAs.other W16 (Or.inl ne2)
 have Y30 := F1_changes.other W16 (Or.inl ne2)
 have Y31 := F1_merged.other W16 (Or.inl ne2)
 have Y32 := F1_gaveBack.other W16 (Or.inl ne2)
 have Y33 := F1_recent.other W16 (Or.inl ne2)
 have Y35 := At1.other W16 (Ne.symm ne4)
 have Y36 := Af1.other W16 (Ne.symm ne6)
 have Y37 := Ar1.other W16 (Ne.symm ne8)
 have hP38 : o_Pr Z n0 pp rc ru wa tm fr tl la L ch gb xs fs rs h16 := ⟨Y17, Y18, Y19, Y20, Y21, Y22, Y23, Y24, Y25, Y26, Y27, Y28, Y29, Y30, Y31, Y32, Y33, Fw16, Y35, Y36, Y37, nt1, wl1, gp1, gt1, gf1, gr1, gu1⟩
 refine o_retV X16 hx hlk hret (hb hby o_d27_5) ?_ (o_b rfl) (o_b rfl)
 rw [e16]
 exact ⟨rfl, N_16, hP38⟩
theorem o_d8_0 : decode o_y10 0 = .ok (.aload_n 0, 1) := by decide +kernel
theorem o_d8_1 : decode o_y10 1 = .ok (.iconst 0, 1) := by decide +kernel
theorem o_d8_2 : decode o_y10 2 = .ok (.putfield 103, 3) := by decide +kernel
theorem o_d8_5 : decode o_y10 5 = .ok (.aload_n 0, 1) := by decide +kernel
theorem o_d8_6 : decode o_y10 6 = .ok (.getfield 37, 3) := by decide +kernel
theorem o_d8_9 : decode o_y10 9 = .ok (.aload_n 0, 1) := by decide +kernel
theorem o_d8_10 : decode o_y10 10 = .ok (.getfield 168, 3) := by decide +kernel
theorem o_d8_13 : decode o_y10 13 = .ok (.invokeinterface 171 2, 5) := by decide +kernel
theorem o_d9_0 : decode o_y11 0 = .ok (.return_, 1) := by decide +kernel
theorem o_pn9 : plainFor (⟨o_n2, "booked", "(I)V"⟩ : MethodName) = true := plainFor_of_name (by first | (simp [plainName, overriddenIn]; done) | decide +kernel)
set_option maxRecDepth 65536 in
set_option maxHeartbeats 40000000 in
theorem o_k9_5 (l : Launch) (Z : State) (a0 : Array Value) (hw : ∀ d ∈ tables_1, d.before a0 Z = true) (p0 : Addr) (h0 : Heap)  :
  o_C l (⟨o_n2, "booked", "(I)V"⟩ : MethodName) o_y11 2 none (o_R 0 0 0 0) Z h0 #[(.ref p0), (.int (0 : Int32))] (o_P none h0) := by
 refine o_body o_pn9 ?_
 intro p e s m below meth c s₁ hx hby hml hZ hown hnm hret hlk X0 e0
 refine o_cast (f' := (o_f10 m 0 p0 (0 : Int32) [])) (by first | (simp [entryFrame, mkF, argsToLocals, Value.category, maxLocals]; done) | rfl) ?_
 exact o_retV X0 hx hlk hret (hb hby o_d9_0) ⟨rfl, rfl, e0⟩ (by decide) (by decide)
theorem o_d8_18 : decode o_y10 18 = .ok (.return_, 1) := by decide +kernel
theorem o_pn8 : plainFor (⟨o_n1, "countsChanged", "()V"⟩ : MethodName) = true := plainFor_of_name (by first | (simp [plainName, overriddenIn]; done) | decide +kernel)
set_option maxRecDepth 65536 in
set_option maxHeartbeats 40000000 in
theorem o_counts (l : Launch) (Z : State) (a0 : Array Value) (hw : ∀ d ∈ tables_1, d.before a0 Z = true) (n0 : Nat) (pp rc ru wa tm fr : Addr) (tl la L : Int32) (ch gb : Int64) (xs : Nat → Int64) (fs : Nat → Int32) (rs : Nat → Int64) (h0 : Heap) (hP : o_Pr Z n0 pp rc ru wa tm fr tl la L ch gb xs fs rs h0) :
  o_C l (⟨o_n1, "countsChanged", "()V"⟩ : MethodName) o_y10 1 none (o_R 1 0 0 13) Z h0 #[(.ref pp)] (fun v h Ls => v = none ∧ Fr n0 Ls ∧ o_Pr Z n0 pp rc ru wa tm fr tl la L ch gb xs fs rs h) := by
 refine o_body o_pn8 ?_
 intro p e s m below meth c s₁ hx hby hml hZ hown hnm hret hlk X0 e0
 refine o_cast (f' := (o_f12 m 0 pp [])) (by first | (simp [entryFrame, mkF, argsToLocals, Value.category, maxLocals]; done) | rfl) ?_
 obtain ⟨Ep1, Er1, Ew1, F1_cpus, F1_times, F1_free, F1_head, F1_tail, F1_lastAt, F1_runs, F1_firstKnown, F1_watcher, F1_watchedAs, F1_changes, F1_merged, F1_gaveBack, F1_recent, Fn1, At1, Af1, Ar1, nt1, wl1, gp1, gt1, gf1, gr1, gu1⟩ := hP
 have ne2 : o_ne pp ru := Ep1.ne Er1 (by decide)
 have ne3 : o_ne pp tm := At1.neExa Ep1 (o_m hw 8 rfl)
 have ne5 : o_ne pp fr := Af1.neExa Ep1 (o_m hw 8 rfl)
 have ne7 : o_ne pp rc := Ar1.neExa Ep1 (o_m hw 8 rfl)
 refine o_q s₁ (o_f12 m 1 pp [(.ref pp)]) (fun _ k9 => XS.aloadN X0.here hx rfl (hb hby o_d8_0) rfl rfl k9) ?_
 refine o_iC (0 : Int32) X0 hx hby o_d8_1 rfl ?_
 obtain ⟨T16, h16, X16, e16, W16, st16⟩ := putFN X0 hx hZ hown (o_m hw 65 rfl) Via.refl e0 F1_firstKnown Ep1 (Or.inl (o_m hw 66 rfl)) (o_m hw 8 rfl) (ty := .boolean) (v' := (.int (0 : Int32))) (by decide) rfl rfl (g := (o_f12 m 2 pp [(.int (0 : Int32)), (.ref pp)])) rfl rfl (hb hby o_d8_2)
 have Fw16 := F1_firstKnown.same W16
 have N_16 := Fr.snoc X16 (Fr.nil _) gp1
 have Y17 := Ep1.wr W16
 have Y18 := Er1.wr W16
 have Y19 := Ew1.wr W16
 have Y20 := F1_cpus.other W16 (o_sn (Or.inr (o_m hw 41 rfl)) (Or.inl (o_m hw 66 rfl)))
 have Y21 := F1_times.other W16 (o_sn (Or.inl (o_m hw 44 rfl)) (Or.inl (o_m hw 66 rfl)))
 have Y22 := F1_free.other W16 (o_sn (Or.inl (o_m hw 47 rfl)) (Or.inl (o_m hw 66 rfl)))
 have Y23 := F1_head.other W16 (o_sn (Or.inl (o_m hw 95 rfl)) (Or.inl (o_m hw 66 rfl)))
 have Y24 := F1_tail.other W16 (o_sn (Or.inl (o_m hw 49 rfl)) (Or.inl (o_m hw 66 rfl)))
 have Y25 := F1_lastAt.other W16 (o_sn (Or.inl (o_m hw 149 rfl)) (Or.inl (o_m hw 66 rfl)))
 have Y26 := F1_runs.other W16 (o_sn (Or.inr (o_m hw 26 rfl)) (Or.inl (o_m hw 66 rfl)))
 have Y28 := F1_watcher.other W16 (o_sn (Or.inl (o_m hw 39 rfl)) (Or.inl (o_m hw 66 rfl)))
 have Y29 := F1_watchedAs.other W16 (o_sn (Or.inl (o_m hw 68 rfl)) (Or.inl (o_m hw 66 rfl)))
 have Y30 := F1_changes.other W16 (o_sn (Or.inl (o_m hw 80 rfl)) (Or.inl (o_m hw 66 rfl)))
 have Y31 := F1_merged.other W16 (o_sn (Or.inl (o_m hw 177 rfl)) (Or.inl (o_m hw 66 rfl)))
 have Y32 := F1_gaveBack.other W16 (o_sn (Or.inl (o_m hw 179 rfl)) (Or.inl (o_m hw 66 rfl)))
 have Y33 := F1_recent.other W16 (o_sn (Or.inr (o_m hw 35 rfl)) (Or.inl (o_m hw 66 rfl)))
 have Y34 := Fn1.other W16 (Or.inl (Ne.symm ne2))
 have Y35 := At1.other W16 (Ne.symm ne3)
 have Y36 := Af1.other W16 (Ne.symm ne5)
 have Y37 := Ar1.other W16 (Ne.symm ne7)
 refine o_q T16 (o_f12 m 5 pp []) st16 ?_
 refine o_q T16 (o_f12 m 6 pp [(.ref pp)]) (fun _ k9 => XS.aloadN X16.here hx rfl (hb hby o_d8_5) rfl rfl k9) ?_
 refine o_gF X16 hx hZ e16 hby hown (o_m hw 38 rfl) Y28 o_d8_6 fun T38 X38 e38 => ?_
 refine o_q T38 (o_f12 m 10 pp [(.ref pp), (.ref wa)]) (fun _ k9 => XS.aloadN X38.here hx rfl (hb hby o_d8_9) rfl rfl k9) ?_
 refine o_gF X38 hx hZ e38 hby hown (o_m hw 67 rfl) Y29 o_d8_10 fun T39 X39 e39 => ?_
 obtain ⟨v40, T40, L40, hQ40, X40, st40⟩ := o_callF X39 hx hZ e39 hown (o_m hw 69 rfl) (o_m hw 70 rfl) (o_m hw 71 rfl) (o_m hw 72 rfl) (o_m hw 73 rfl) (o_m hw 74 rfl) (o_m hw 75 rfl) (o_m hw 76 rfl) (by first | rfl | simp [Cond.onTables, Cond.keepsFace, Cond.keeps, Cond.steady]) (by decide) (b := wa) Y19 (o_m hw 78 rfl) (o_m hw 77 rfl) (o_k9_5 l Z a0 hw wa h16 ) (g := (o_f12 m 13 pp [(.int (0 : Int32)), (.ref wa)])) rfl (by rw [hml]; rfl) rfl (argsL := [(.int (0 : Int32))]) (rest := []) rfl (lenOf o_pd3 rfl) rfl (hb hby o_d8_13) (o_b rfl) (o_b rfl) (o_b rfl) (o_b rfl)
 obtain ⟨rfl, rfl, e40⟩ := hQ40
 rw [List.append_nil] at X40
 refine o_q T40 (o_f12 m 18 pp []) st40 ?_
 have hP41 : o_Pr Z n0 pp rc ru wa tm fr tl la L ch gb xs fs rs h16 := ⟨Y17, Y18, Y19, Y20, Y21, Y22, Y23, Y24, Y25, Y26, Fw16, Y28, Y29, Y30, Y31, Y32, Y33, Y34, Y35, Y36, Y37, nt1, wl1, gp1, gt1, gf1, gr1, gu1⟩
 refine o_retV X40 hx hlk hret (hb hby o_d8_18) ?_ (o_b rfl) (o_b rfl)
 rw [e40]
 exact ⟨rfl, N_16, hP41⟩
theorem o_Lg {L : Int32} (hL : L = 4 ∨ L = 8 ∨ L = 16) : ((2 : Int32) * L).toInt = 2 * L.toInt ∧ (L / (2 : Int32)).toInt ≤ L.toInt ∧ 4 ≤ L.toInt ∧ L.toInt ≤ 16 := by rcases hL with rfl | rfl | rfl <;> decide
theorem o_d10_11 : decode o_y8 11 = .ok (.aload_n 0, 1) := by decide +kernel
theorem o_d10_12 : decode o_y8 12 = .ok (.getfield 56, 3) := by decide +kernel
theorem o_d10_15 : decode o_y8 15 = .ok (.istore_n 2, 1) := by decide +kernel
theorem o_d10_16 : decode o_y8 16 = .ok (.iload_n 1, 1) := by decide +kernel
theorem o_d10_17 : decode o_y8 17 = .ok (.iload_n 2, 1) := by decide +kernel
theorem o_d10_18 : decode o_y8 18 = .ok (.isub, 1) := by decide +kernel
theorem o_d10_19 : decode o_y8 19 = .ok (.istore_n 3, 1) := by decide +kernel
theorem o_d10_20 : decode o_y8 20 = .ok (.aload_n 0, 1) := by decide +kernel
theorem o_d10_21 : decode o_y8 21 = .ok (.getfield 46, 3) := by decide +kernel
theorem o_d10_24 : decode o_y8 24 = .ok (.astore 4, 2) := by decide +kernel
theorem o_d10_26 : decode o_y8 26 = .ok (.aload_n 0, 1) := by decide +kernel
theorem o_d10_27 : decode o_y8 27 = .ok (.getfield 49, 3) := by decide +kernel
theorem o_d10_30 : decode o_y8 30 = .ok (.astore 5, 2) := by decide +kernel
theorem o_d10_32 : decode o_y8 32 = .ok (.iload_n 3, 1) := by decide +kernel
theorem o_d10_33 : decode o_y8 33 = .ok (.aload_n 0, 1) := by decide +kernel
theorem o_d10_34 : decode o_y8 34 = .ok (.getfield 46, 3) := by decide +kernel
theorem o_d10_37 : decode o_y8 37 = .ok (.arraylength, 1) := by decide +kernel
theorem o_d10_38 : decode o_y8 38 = .ok (.iconst 2, 1) := by decide +kernel
theorem o_d10_39 : decode o_y8 39 = .ok (.idiv, 1) := by decide +kernel
theorem o_d10_40 : decode o_y8 40 = .ok (.if_icmp .le 31, 3) := by decide +kernel
theorem o_d10_43 : decode o_y8 43 = .ok (.aload_n 0, 1) := by decide +kernel
theorem o_d10_44 : decode o_y8 44 = .ok (.iload_n 3, 1) := by decide +kernel
theorem o_d10_45 : decode o_y8 45 = .ok (.iconst 2, 1) := by decide +kernel
theorem o_d10_46 : decode o_y8 46 = .ok (.aload_n 0, 1) := by decide +kernel
theorem o_d10_47 : decode o_y8 47 = .ok (.getfield 46, 3) := by decide +kernel
theorem o_d10_50 : decode o_y8 50 = .ok (.arraylength, 1) := by decide +kernel
theorem o_d10_51 : decode o_y8 51 = .ok (.imul, 1) := by decide +kernel
theorem o_d10_52 : decode o_y8 52 = .ok (.invokestatic 92, 3) := by decide +kernel
theorem o_d10_55 : decode o_y8 55 = .ok (.newarray .long, 2) := by decide +kernel
theorem o_d10_57 : decode o_y8 57 = .ok (.putfield 46, 3) := by decide +kernel
theorem o_d10_60 : decode o_y8 60 = .ok (.aload_n 0, 1) := by decide +kernel
theorem o_d10_61 : decode o_y8 61 = .ok (.aload_n 0, 1) := by decide +kernel
theorem o_d10_62 : decode o_y8 62 = .ok (.getfield 46, 3) := by decide +kernel
theorem o_d10_65 : decode o_y8 65 = .ok (.arraylength, 1) := by decide +kernel
theorem o_d10_66 : decode o_y8 66 = .ok (.newarray .int, 2) := by decide +kernel
theorem o_d10_68 : decode o_y8 68 = .ok (.putfield 49, 3) := by decide +kernel
theorem o_d10_71 : decode o_y8 71 = .ok (.aload 4, 2) := by decide +kernel
theorem o_d10_73 : decode o_y8 73 = .ok (.aload_n 0, 1) := by decide +kernel
theorem o_d10_74 : decode o_y8 74 = .ok (.getfield 56, 3) := by decide +kernel
theorem o_d10_77 : decode o_y8 77 = .ok (.aload_n 0, 1) := by decide +kernel
theorem o_d10_78 : decode o_y8 78 = .ok (.getfield 46, 3) := by decide +kernel
theorem o_d10_81 : decode o_y8 81 = .ok (.iconst 0, 1) := by decide +kernel
theorem o_d10_82 : decode o_y8 82 = .ok (.aload_n 0, 1) := by decide +kernel
theorem o_d10_83 : decode o_y8 83 = .ok (.getfield 53, 3) := by decide +kernel
theorem o_d10_86 : decode o_y8 86 = .ok (.aload_n 0, 1) := by decide +kernel
theorem o_d10_87 : decode o_y8 87 = .ok (.getfield 56, 3) := by decide +kernel
theorem o_d10_90 : decode o_y8 90 = .ok (.isub, 1) := by decide +kernel
theorem o_d10_91 : decode o_y8 91 = .ok (.invokestatic 244, 3) := by decide +kernel
theorem o_d10_94 : decode o_y8 94 = .ok (.aload 5, 2) := by decide +kernel
theorem o_d10_96 : decode o_y8 96 = .ok (.aload_n 0, 1) := by decide +kernel
theorem o_d10_97 : decode o_y8 97 = .ok (.getfield 56, 3) := by decide +kernel
theorem o_d10_100 : decode o_y8 100 = .ok (.aload_n 0, 1) := by decide +kernel
theorem o_d10_101 : decode o_y8 101 = .ok (.getfield 49, 3) := by decide +kernel
theorem o_d10_104 : decode o_y8 104 = .ok (.iconst 0, 1) := by decide +kernel
theorem o_d10_105 : decode o_y8 105 = .ok (.aload_n 0, 1) := by decide +kernel
theorem o_d10_106 : decode o_y8 106 = .ok (.getfield 53, 3) := by decide +kernel
theorem o_d10_109 : decode o_y8 109 = .ok (.aload_n 0, 1) := by decide +kernel
theorem o_d10_110 : decode o_y8 110 = .ok (.getfield 56, 3) := by decide +kernel
theorem o_d10_113 : decode o_y8 113 = .ok (.isub, 1) := by decide +kernel
theorem o_d10_114 : decode o_y8 114 = .ok (.invokestatic 244, 3) := by decide +kernel
theorem o_d10_117 : decode o_y8 117 = .ok (.aload_n 0, 1) := by decide +kernel
theorem o_d10_118 : decode o_y8 118 = .ok (.iconst 0, 1) := by decide +kernel
theorem o_d10_119 : decode o_y8 119 = .ok (.putfield 56, 3) := by decide +kernel
theorem o_d10_122 : decode o_y8 122 = .ok (.aload_n 0, 1) := by decide +kernel
theorem o_d10_123 : decode o_y8 123 = .ok (.dup, 1) := by decide +kernel
theorem o_d10_124 : decode o_y8 124 = .ok (.getfield 53, 3) := by decide +kernel
theorem o_d10_127 : decode o_y8 127 = .ok (.iload_n 2, 1) := by decide +kernel
theorem o_d10_128 : decode o_y8 128 = .ok (.isub, 1) := by decide +kernel
theorem o_d10_129 : decode o_y8 129 = .ok (.putfield 53, 3) := by decide +kernel
theorem o_d10_132 : decode o_y8 132 = .ok (.aload_n 0, 1) := by decide +kernel
theorem o_d10_133 : decode o_y8 133 = .ok (.getfield 14, 3) := by decide +kernel
theorem o_d10_136 : decode o_y8 136 = .ok (.invokevirtual 257, 3) := by decide +kernel
theorem o_pd0 : parseMethodDescriptor "()V" = some ⟨[], none⟩ := by decide +kernel
theorem o_d10_139 : decode o_y8 139 = .ok (.iload_n 2, 1) := by decide +kernel
theorem o_d10_140 : decode o_y8 140 = .ok (.ireturn, 1) := by decide +kernel
set_option maxRecDepth 65536 in
set_option maxHeartbeats 40000000 in
theorem o_room1 (l : Launch) (Z : State) (a0 : Array Value) (hw : ∀ d ∈ tables_1, d.before a0 Z = true) (n0 : Nat) (pp rc ru wa tm fr : Addr) (tl la L : Int32) (ch gb : Int64) (xs : Nat → Int64) (fs : Nat → Int32) (rs : Nat → Int64) (L2 len : Int32) (h0 : Heap) (hP : o_Pr Z n0 pp rc ru wa tm fr tl la L ch gb xs fs rs h0) (lz : L2 = ((2 : Int32) * L)) (lq : L2.toInt = 2 * L.toInt) (lh : (L / (2 : Int32)).toInt ≤ L.toInt) (lv : 4 ≤ L.toInt) (lw : L.toInt ≤ 16) (i1 : 1 ≤ tl.toInt) (i2 : tl.toInt ≤ L.toInt) (r1 : L.toInt < len.toInt) (r2 : len.toInt = tl.toInt + 2) :
  o_C l (⟨o_n1, "room", "(I)I"⟩ : MethodName) o_y8 6 (some .int) (o_R 1 2 64 40) Z h0 #[(.ref pp), (.int len)] (fun v h Ls => ∃ (tm' fr' : Addr) (xs' : Nat → Int64) (fs' : Nat → Int32), v = some (.int (0 : Int32)) ∧ Fr n0 Ls ∧ o_Pr Z n0 pp rc ru wa tm' fr' tl la L2 ch gb xs' fs' rs h ∧ (∀ i, i < tl.toNatClampNeg → xs' i = xs i) ∧ (∀ i, i < tl.toNatClampNeg → fs' i = fs i)) := by
 refine o_body o_pn10 ?_
 intro p e s m below meth c s₁ hx hby hml hZ hown hnm hret hlk X0 e0
 refine o_cast (f' := (o_f11 m 0 pp len [])) (by first | (simp [entryFrame, mkF, argsToLocals, Value.category, maxLocals]; done) | rfl) ?_
 obtain ⟨Ep1, Er1, Ew1, F1_cpus, F1_times, F1_free, F1_head, F1_tail, F1_lastAt, F1_runs, F1_firstKnown, F1_watcher, F1_watchedAs, F1_changes, F1_merged, F1_gaveBack, F1_recent, Fn1, At1, Af1, Ar1, nt1, wl1, gp1, gt1, gf1, gr1, gu1⟩ := hP
 have ne2 : o_ne pp ru := Ep1.ne Er1 (by decide)
 have ne3 : o_ne pp tm := At1.neExa Ep1 (o_m hw 8 rfl)
 have ne5 : o_ne pp fr := Af1.neExa Ep1 (o_m hw 8 rfl)
 have ne7 : o_ne pp rc := Ar1.neExa Ep1 (o_m hw 8 rfl)
 refine o_q s₁ (o_f11 m 1 pp len [(.int len)]) (fun _ k9 => XS.iloadN X0.here hx rfl (hb hby o_d10_0) rfl k9) ?_
 refine o_q s₁ (o_f11 m 2 pp len [(.ref pp), (.int len)]) (fun _ k9 => XS.aloadN X0.here hx rfl (hb hby o_d10_1) rfl rfl k9) ?_
 refine o_gF X0 hx hZ e0 hby hown (o_m hw 43 rfl) F1_times o_d10_2 fun T16 X16 e16 => ?_
 refine o_q T16 (o_f11 m 6 pp len [(.int L), (.int len)]) (fun _ k9 => o_len X16 hx hZ e16 At1 (g := (o_f11 m 5 pp len [(.ref tm), (.int len)])) rfl rfl (hb hby o_d10_5) _ k9) ?_
 have q17 : L.toInt < len.toInt := by
  have r1 := rng32 L
  have r2 := rng32 len
  omega
 refine o_cY 11 X16 hx hby o_d10_6 (tlt (Int32.lt_iff_toInt_lt.mpr q17)).2.2.1 ?_
 refine o_q T16 (o_f11 m 12 pp len [(.ref pp)]) (fun _ k9 => XS.aloadN X16.here hx rfl (hb hby o_d10_11) rfl rfl k9) ?_
 refine o_gF X16 hx hZ e16 hby hown (o_m hw 94 rfl) F1_head o_d10_12 fun T18 X18 e18 => ?_
 refine o_q T18 (o_f13 m 16 pp len (0 : Int32) []) (fun _ k9 => XS.istoreN X18.here hx rfl (hb hby o_d10_15) rfl (l' := (o_t13 pp len (0 : Int32))) rfl k9) ?_
 refine o_q T18 (o_f13 m 17 pp len (0 : Int32) [(.int len)]) (fun _ k9 => XS.iloadN X18.here hx rfl (hb hby o_d10_16) rfl k9) ?_
 refine o_q T18 (o_f13 m 18 pp len (0 : Int32) [(.int (0 : Int32)), (.int len)]) (fun _ k9 => XS.iloadN X18.here hx rfl (hb hby o_d10_17) rfl k9) ?_
 refine o_q T18 (o_f13 m 19 pp len (0 : Int32) [(.int (len - (0 : Int32)))]) (fun _ k9 => XS.isub X18.here hx rfl (hb hby o_d10_18) rfl k9) ?_
 refine o_q T18 (o_f14 m 20 pp len (0 : Int32) (len - (0 : Int32)) []) (fun _ k9 => XS.istoreN X18.here hx rfl (hb hby o_d10_19) rfl (l' := (o_t14 pp len (0 : Int32) (len - (0 : Int32)))) rfl k9) ?_
 refine o_q T18 (o_f14 m 21 pp len (0 : Int32) (len - (0 : Int32)) [(.ref pp)]) (fun _ k9 => XS.aloadN X18.here hx rfl (hb hby o_d10_20) rfl rfl k9) ?_
 refine o_gF X18 hx hZ e18 hby hown (o_m hw 43 rfl) F1_times o_d10_21 fun T19 X19 e19 => ?_
 refine o_q T19 (o_f15 m 26 pp len (0 : Int32) (len - (0 : Int32)) tm []) (fun _ k9 => XS.astore X19.here hx rfl (hb hby o_d10_24) rfl rfl (l' := (o_t15 pp len (0 : Int32) (len - (0 : Int32)) tm)) rfl k9) ?_
 refine o_q T19 (o_f15 m 27 pp len (0 : Int32) (len - (0 : Int32)) tm [(.ref pp)]) (fun _ k9 => XS.aloadN X19.here hx rfl (hb hby o_d10_26) rfl rfl k9) ?_
 refine o_gF X19 hx hZ e19 hby hown (o_m hw 46 rfl) F1_free o_d10_27 fun T20 X20 e20 => ?_
 refine o_q T20 (o_f16 m 32 pp len (0 : Int32) (len - (0 : Int32)) tm fr []) (fun _ k9 => XS.astore X20.here hx rfl (hb hby o_d10_30) rfl rfl (l' := (o_t16 pp len (0 : Int32) (len - (0 : Int32)) tm fr)) rfl k9) ?_
 refine o_q T20 (o_f16 m 33 pp len (0 : Int32) (len - (0 : Int32)) tm fr [(.int (len - (0 : Int32)))]) (fun _ k9 => XS.iloadN X20.here hx rfl (hb hby o_d10_32) rfl k9) ?_
 refine o_q T20 (o_f16 m 34 pp len (0 : Int32) (len - (0 : Int32)) tm fr [(.ref pp), (.int (len - (0 : Int32)))]) (fun _ k9 => XS.aloadN X20.here hx rfl (hb hby o_d10_33) rfl rfl k9) ?_
 refine o_gF X20 hx hZ e20 hby hown (o_m hw 43 rfl) F1_times o_d10_34 fun T21 X21 e21 => ?_
 refine o_q T21 (o_f16 m 38 pp len (0 : Int32) (len - (0 : Int32)) tm fr [(.int L), (.int (len - (0 : Int32)))]) (fun _ k9 => o_len X21 hx hZ e21 At1 (g := (o_f16 m 37 pp len (0 : Int32) (len - (0 : Int32)) tm fr [(.ref tm), (.int (len - (0 : Int32)))])) rfl rfl (hb hby o_d10_37) _ k9) ?_
 refine o_iC (2 : Int32) X21 hx hby o_d10_38 rfl ?_
 refine o_q T21 (o_f16 m 40 pp len (0 : Int32) (len - (0 : Int32)) tm fr [(.int (L / (2 : Int32))), (.int (len - (0 : Int32)))]) (fun _ k9 => XS.idiv X21.here hx rfl (hb hby o_d10_39) rfl (by decide) k9) ?_
 obtain ⟨Lh, h_Lh⟩ : ∃ z, z = (L / (2 : Int32)) := ⟨_, rfl⟩
 rw [← h_Lh]
 rw [← h_Lh] at lh
 have q22 : Lh.toInt < ((len - (0 : Int32))).toInt := by
  have r1 := rng32 Lh
  have r2 := rng32 len
  have k3 : (0 : Int32).toInt = 0 := by decide
  have e4 := c_isub (len) ((0 : Int32))
  have r4 := rng32 ((len - (0 : Int32)))
  rw [show (0 : Int32).toInt = 0 from by decide] at e4
  omega
 refine o_cN X21 hx hby o_d10_40 (tlt (Int32.lt_iff_toInt_lt.mpr q22)).2.2.2 ?_
 refine o_q T21 (o_f16 m 44 pp len (0 : Int32) (len - (0 : Int32)) tm fr [(.ref pp)]) (fun _ k9 => XS.aloadN X21.here hx rfl (hb hby o_d10_43) rfl rfl k9) ?_
 refine o_q T21 (o_f16 m 45 pp len (0 : Int32) (len - (0 : Int32)) tm fr [(.int (len - (0 : Int32))), (.ref pp)]) (fun _ k9 => XS.iloadN X21.here hx rfl (hb hby o_d10_44) rfl k9) ?_
 refine o_iC (2 : Int32) X21 hx hby o_d10_45 rfl ?_
 refine o_q T21 (o_f16 m 47 pp len (0 : Int32) (len - (0 : Int32)) tm fr [(.ref pp), (.int (2 : Int32)), (.int (len - (0 : Int32))), (.ref pp)]) (fun _ k9 => XS.aloadN X21.here hx rfl (hb hby o_d10_46) rfl rfl k9) ?_
 refine o_gF X21 hx hZ e21 hby hown (o_m hw 43 rfl) F1_times o_d10_47 fun T23 X23 e23 => ?_
 refine o_q T23 (o_f16 m 51 pp len (0 : Int32) (len - (0 : Int32)) tm fr [(.int L), (.int (2 : Int32)), (.int (len - (0 : Int32))), (.ref pp)]) (fun _ k9 => o_len X23 hx hZ e23 At1 (g := (o_f16 m 50 pp len (0 : Int32) (len - (0 : Int32)) tm fr [(.ref tm), (.int (2 : Int32)), (.int (len - (0 : Int32))), (.ref pp)])) rfl rfl (hb hby o_d10_50) _ k9) ?_
 refine o_q T23 (o_f16 m 52 pp len (0 : Int32) (len - (0 : Int32)) tm fr [(.int ((2 : Int32) * L)), (.int (len - (0 : Int32))), (.ref pp)]) (fun _ k9 => XS.imul X23.here hx rfl (hb hby o_d10_51) rfl k9) ?_
 rw [← lz]
 have c32 : L2.toNatClampNeg ≤ 32 := by have := o_nat L2 (by omega); omega
 obtain ⟨v24, T24, L24, hQ24, X24, st24⟩ := o_callS X23 hx hZ e23 hown (o_m hw 154 rfl) (o_m hw 143 rfl) (by decide) (o_m hw 144 rfl) (o_m hw 2 rfl) (o_k24_2 l Z a0 hw (len - (0 : Int32)) L2 h0 ) (g := (o_f16 m 52 pp len (0 : Int32) (len - (0 : Int32)) tm fr [(.int L2), (.int (len - (0 : Int32))), (.ref pp)])) rfl (by rw [hml]; rfl) rfl (argsL := [(.int (len - (0 : Int32))), (.int L2)]) (rest := [(.ref pp)]) rfl (lenOf o_pd4 rfl) rfl (hb hby o_d10_52) (o_b rfl) (o_b rfl) (o_b rfl) (o_b rfl)
 obtain ⟨rfl, rfl, e24⟩ := hQ24
 rw [List.append_nil] at X24
 have q25 : ((len - (0 : Int32))).toInt < L2.toInt := by
  have r1 := rng32 len
  have k2 : (0 : Int32).toInt = 0 := by decide
  have e3 := c_isub (len) ((0 : Int32))
  have r3 := rng32 ((len - (0 : Int32)))
  rw [show (0 : Int32).toInt = 0 from by decide] at e3
  have r4 := rng32 L2
  omega
 rw [if_pos (Int32.lt_iff_toInt_lt.mpr q25)] at st24
 refine o_q T24 (o_f16 m 55 pp len (0 : Int32) (len - (0 : Int32)) tm fr [(.int L2), (.ref pp)]) st24 ?_
 obtain ⟨T26, h26, k26, X26, e26, E26, A26, st26⟩ := newP X24 hx hZ (o_m hw 27 rfl) e24 (g := (o_f16 m 55 pp len (0 : Int32) (len - (0 : Int32)) tm fr [(.int L2), (.ref pp)])) rfl (hb hby o_d10_55) rfl (o_nlt0 (by omega)) (cap := 32) c32 (by decide) (by decide) (by decide)
 obtain ⟨b26, g26⟩ : ∃ z, z = h0.size := ⟨_, rfl⟩
 rw [← g26] at A26 st26
 have ne27 : o_ne pp b26 := Nat.ne_of_lt (Nat.lt_of_lt_of_le Ep1.lt (Nat.le_of_eq g26.symm))
 have ne28 : o_ne ru b26 := Nat.ne_of_lt (Nat.lt_of_lt_of_le Er1.lt (Nat.le_of_eq g26.symm))
 have ne31 : o_ne fr b26 := Nat.ne_of_lt (Nat.lt_of_lt_of_le Af1.lt (Nat.le_of_eq g26.symm))
 have ne32 : o_ne rc b26 := Nat.ne_of_lt (Nat.lt_of_lt_of_le Ar1.lt (Nat.le_of_eq g26.symm))
 have g_b26 : n0 ≤ b26 := Nat.le_trans (Nat.le_of_lt (Nat.lt_of_le_of_lt gp1 Ep1.lt)) (Nat.le_of_eq g26.symm)
 have V26 : o_LA Z h26 b26 L2 (fun _ => 0) := o_new0 A26 (o_nlt0 (by omega)) rfl
 obtain ⟨f26, d_f26⟩ : ∃ z : Nat → Int64, z = (fun _ => 0) := ⟨_, rfl⟩
 rw [← d_f26] at V26
 have Y33 := Ep1.ext E26
 have Y34 := Er1.ext E26
 have Y35 := Ew1.ext E26
 have Y36 := F1_cpus.ext E26
 have Y37 := F1_times.ext E26
 have Y38 := F1_free.ext E26
 have Y39 := F1_head.ext E26
 have Y40 := F1_tail.ext E26
 have Y41 := F1_lastAt.ext E26
 have Y42 := F1_runs.ext E26
 have Y43 := F1_firstKnown.ext E26
 have Y44 := F1_watcher.ext E26
 have Y45 := F1_watchedAs.ext E26
 have Y46 := F1_changes.ext E26
 have Y47 := F1_merged.ext E26
 have Y48 := F1_gaveBack.ext E26
 have Y49 := F1_recent.ext E26
 have Y50 := Fn1.ext E26
 have Y51 := At1.ext E26
 have Y52 := Af1.ext E26
 have Y53 := Ar1.ext E26
 refine o_q T26 (o_f16 m 57 pp len (0 : Int32) (len - (0 : Int32)) tm fr [(.ref b26), (.ref pp)]) st26 ?_
 refine o_pF X26 hx hZ e26 hby (ty := (.array .long)) hown (o_m hw 43 rfl) Y37 Y33 (Or.inl (o_m hw 44 rfl)) (o_m hw 8 rfl) (by decide) rfl rfl o_d10_57 fun T54 h54 X54 e54 W54 => ?_
 have Fw54 := Y37.same W54
 have N_54 := Fr.snoc X54 (Fr.nil _) gp1
 have Y55 := Y33.wr W54
 have Y56 := Y34.wr W54
 have Y57 := Y35.wr W54
 have Y58 := Y36.other W54 (o_sn (Or.inr (o_m hw 41 rfl)) (Or.inl (o_m hw 44 rfl)))
 have Y60 := Y38.other W54 (o_sn (Or.inl (o_m hw 47 rfl)) (Or.inl (o_m hw 44 rfl)))
 have Y61 := Y39.other W54 (o_sn (Or.inl (o_m hw 95 rfl)) (Or.inl (o_m hw 44 rfl)))
 have Y62 := Y40.other W54 (o_sn (Or.inl (o_m hw 49 rfl)) (Or.inl (o_m hw 44 rfl)))
 have Y63 := Y41.other W54 (o_sn (Or.inl (o_m hw 149 rfl)) (Or.inl (o_m hw 44 rfl)))
 have Y64 := Y42.other W54 (o_sn (Or.inr (o_m hw 26 rfl)) (Or.inl (o_m hw 44 rfl)))
 have Y65 := Y43.other W54 (o_sn (Or.inl (o_m hw 66 rfl)) (Or.inl (o_m hw 44 rfl)))
 have Y66 := Y44.other W54 (o_sn (Or.inl (o_m hw 39 rfl)) (Or.inl (o_m hw 44 rfl)))
 have Y67 := Y45.other W54 (o_sn (Or.inl (o_m hw 68 rfl)) (Or.inl (o_m hw 44 rfl)))
 have Y68 := Y46.other W54 (o_sn (Or.inl (o_m hw 80 rfl)) (Or.inl (o_m hw 44 rfl)))
 have Y69 := Y47.other W54 (o_sn (Or.inl (o_m hw 177 rfl)) (Or.inl (o_m hw 44 rfl)))
 have Y70 := Y48.other W54 (o_sn (Or.inl (o_m hw 179 rfl)) (Or.inl (o_m hw 44 rfl)))
 have Y71 := Y49.other W54 (o_sn (Or.inr (o_m hw 35 rfl)) (Or.inl (o_m hw 44 rfl)))
 have Y72 := Y50.other W54 (Or.inl (Ne.symm ne2))
 have Y73 := Y51.other W54 (Ne.symm ne3)
 have Y74 := Y52.other W54 (Ne.symm ne5)
 have Y75 := Y53.other W54 (Ne.symm ne7)
 have Y76 := V26.other W54 (Ne.symm ne27)
 refine o_q T54 (o_f16 m 61 pp len (0 : Int32) (len - (0 : Int32)) tm fr [(.ref pp)]) (fun _ k9 => XS.aloadN X54.here hx rfl (hb hby o_d10_60) rfl rfl k9) ?_
 refine o_q T54 (o_f16 m 62 pp len (0 : Int32) (len - (0 : Int32)) tm fr [(.ref pp), (.ref pp)]) (fun _ k9 => XS.aloadN X54.here hx rfl (hb hby o_d10_61) rfl rfl k9) ?_
 refine o_gF X54 hx hZ e54 hby hown (o_m hw 43 rfl) Fw54 o_d10_62 fun T77 X77 e77 => ?_
 refine o_q T77 (o_f16 m 66 pp len (0 : Int32) (len - (0 : Int32)) tm fr [(.int L2), (.ref pp)]) (fun _ k9 => o_len X77 hx hZ e77 Y76 (g := (o_f16 m 65 pp len (0 : Int32) (len - (0 : Int32)) tm fr [(.ref b26), (.ref pp)])) rfl rfl (hb hby o_d10_65) _ k9) ?_
 obtain ⟨T78, h78, k78, X78, e78, E78, A78, st78⟩ := newP X77 hx hZ (o_m hw 45 rfl) e77 (g := (o_f16 m 66 pp len (0 : Int32) (len - (0 : Int32)) tm fr [(.int L2), (.ref pp)])) rfl (hb hby o_d10_66) rfl (o_nlt0 (by omega)) (cap := 32) c32 (by decide) (by decide) (by decide)
 obtain ⟨b78, g78⟩ : ∃ z, z = h54.size := ⟨_, rfl⟩
 rw [← g78] at A78 st78
 have ne79 : o_ne pp b78 := Nat.ne_of_lt (Nat.lt_of_lt_of_le Y55.lt (Nat.le_of_eq g78.symm))
 have ne80 : o_ne ru b78 := Nat.ne_of_lt (Nat.lt_of_lt_of_le Y56.lt (Nat.le_of_eq g78.symm))
 have ne84 : o_ne rc b78 := Nat.ne_of_lt (Nat.lt_of_lt_of_le Y75.lt (Nat.le_of_eq g78.symm))
 have ne85 : o_ne b26 b78 := Nat.ne_of_lt (Nat.lt_of_lt_of_le Y76.lt (Nat.le_of_eq g78.symm))
 have g_b78 : n0 ≤ b78 := Nat.le_trans (Nat.le_of_lt (Nat.lt_of_le_of_lt gp1 Y55.lt)) (Nat.le_of_eq g78.symm)
 have V78 : o_IA Z h78 b78 L2 (fun _ => 0) := o_new0 A78 (o_nlt0 (by omega)) rfl
 obtain ⟨f78, d_f78⟩ : ∃ z : Nat → Int32, z = (fun _ => 0) := ⟨_, rfl⟩
 rw [← d_f78] at V78
 have Y86 := Y55.ext E78
 have Y87 := Y56.ext E78
 have Y88 := Y57.ext E78
 have Y89 := Y58.ext E78
 have Y90 := Fw54.ext E78
 have Y91 := Y60.ext E78
 have Y92 := Y61.ext E78
 have Y93 := Y62.ext E78
 have Y94 := Y63.ext E78
 have Y95 := Y64.ext E78
 have Y96 := Y65.ext E78
 have Y97 := Y66.ext E78
 have Y98 := Y67.ext E78
 have Y99 := Y68.ext E78
 have Y100 := Y69.ext E78
 have Y101 := Y70.ext E78
 have Y102 := Y71.ext E78
 have Y103 := Y72.ext E78
 have Y104 := Y73.ext E78
 have Y105 := Y74.ext E78
 have Y106 := Y75.ext E78
 have Y107 := Y76.ext E78
 refine o_q T78 (o_f16 m 68 pp len (0 : Int32) (len - (0 : Int32)) tm fr [(.ref b78), (.ref pp)]) st78 ?_
 refine o_pF X78 hx hZ e78 hby (ty := (.array .int)) hown (o_m hw 46 rfl) Y91 Y86 (Or.inl (o_m hw 47 rfl)) (o_m hw 8 rfl) (by decide) rfl rfl o_d10_68 fun T108 h108 X108 e108 W108 => ?_
 have Fw108 := Y91.same W108
 have N_108 := Fr.snoc X108 N_54 gp1
 have Y109 := Y86.wr W108
 have Y110 := Y87.wr W108
 have Y111 := Y88.wr W108
 have Y112 := Y89.other W108 (o_sn (Or.inr (o_m hw 41 rfl)) (Or.inl (o_m hw 47 rfl)))
 have Y113 := Y90.other W108 (o_sn (Or.inl (o_m hw 44 rfl)) (Or.inl (o_m hw 47 rfl)))
 have Y115 := Y92.other W108 (o_sn (Or.inl (o_m hw 95 rfl)) (Or.inl (o_m hw 47 rfl)))
 have Y116 := Y93.other W108 (o_sn (Or.inl (o_m hw 49 rfl)) (Or.inl (o_m hw 47 rfl)))
 have Y117 := Y94.other W108 (o_sn (Or.inl (o_m hw 149 rfl)) (Or.inl (o_m hw 47 rfl)))
 have Y118 := Y95.other W108 (o_sn (Or.inr (o_m hw 26 rfl)) (Or.inl (o_m hw 47 rfl)))
 have Y119 := Y96.other W108 (o_sn (Or.inl (o_m hw 66 rfl)) (Or.inl (o_m hw 47 rfl)))
 have Y120 := Y97.other W108 (o_sn (Or.inl (o_m hw 39 rfl)) (Or.inl (o_m hw 47 rfl)))
 have Y121 := Y98.other W108 (o_sn (Or.inl (o_m hw 68 rfl)) (Or.inl (o_m hw 47 rfl)))
 have Y122 := Y99.other W108 (o_sn (Or.inl (o_m hw 80 rfl)) (Or.inl (o_m hw 47 rfl)))
 have Y123 := Y100.other W108 (o_sn (Or.inl (o_m hw 177 rfl)) (Or.inl (o_m hw 47 rfl)))
 have Y124 := Y101.other W108 (o_sn (Or.inl (o_m hw 179 rfl)) (Or.inl (o_m hw 47 rfl)))
 have Y125 := Y102.other W108 (o_sn (Or.inr (o_m hw 35 rfl)) (Or.inl (o_m hw 47 rfl)))
 have Y126 := Y103.other W108 (Or.inl (Ne.symm ne2))
 have Y127 := Y104.other W108 (Ne.symm ne3)
 have Y128 := Y105.other W108 (Ne.symm ne5)
 have Y129 := Y106.other W108 (Ne.symm ne7)
 have Y130 := Y107.other W108 (Ne.symm ne27)
 have Y131 := V78.other W108 (Ne.symm ne79)
 refine o_q T108 (o_f16 m 73 pp len (0 : Int32) (len - (0 : Int32)) tm fr [(.ref tm)]) (fun _ k9 => XS.aload X108.here hx rfl (hb hby o_d10_71) rfl rfl k9) ?_
 refine o_q T108 (o_f16 m 74 pp len (0 : Int32) (len - (0 : Int32)) tm fr [(.ref pp), (.ref tm)]) (fun _ k9 => XS.aloadN X108.here hx rfl (hb hby o_d10_73) rfl rfl k9) ?_
 refine o_gF X108 hx hZ e108 hby hown (o_m hw 94 rfl) Y115 o_d10_74 fun T132 X132 e132 => ?_
 refine o_q T132 (o_f16 m 78 pp len (0 : Int32) (len - (0 : Int32)) tm fr [(.ref pp), (.int (0 : Int32)), (.ref tm)]) (fun _ k9 => XS.aloadN X132.here hx rfl (hb hby o_d10_77) rfl rfl k9) ?_
 refine o_gF X132 hx hZ e132 hby hown (o_m hw 43 rfl) Y113 o_d10_78 fun T133 X133 e133 => ?_
 refine o_iC (0 : Int32) X133 hx hby o_d10_81 rfl ?_
 refine o_q T133 (o_f16 m 83 pp len (0 : Int32) (len - (0 : Int32)) tm fr [(.ref pp), (.int (0 : Int32)), (.ref b26), (.int (0 : Int32)), (.ref tm)]) (fun _ k9 => XS.aloadN X133.here hx rfl (hb hby o_d10_82) rfl rfl k9) ?_
 refine o_gF X133 hx hZ e133 hby hown (o_m hw 48 rfl) Y116 o_d10_83 fun T134 X134 e134 => ?_
 refine o_q T134 (o_f16 m 87 pp len (0 : Int32) (len - (0 : Int32)) tm fr [(.ref pp), (.int tl), (.int (0 : Int32)), (.ref b26), (.int (0 : Int32)), (.ref tm)]) (fun _ k9 => XS.aloadN X134.here hx rfl (hb hby o_d10_86) rfl rfl k9) ?_
 refine o_gF X134 hx hZ e134 hby hown (o_m hw 94 rfl) Y115 o_d10_87 fun T135 X135 e135 => ?_
 refine o_q T135 (o_f16 m 91 pp len (0 : Int32) (len - (0 : Int32)) tm fr [(.int (tl - (0 : Int32))), (.int (0 : Int32)), (.ref b26), (.int (0 : Int32)), (.ref tm)]) (fun _ k9 => XS.isub X135.here hx rfl (hb hby o_d10_90) rfl k9) ?_
 have u1_136 : 0 ≤ (0 : Int32).toInt := by
  have k1 : (0 : Int32).toInt = 0 := by decide
  omega
 have u2_136 : 0 ≤ (0 : Int32).toInt := by
  have k1 : (0 : Int32).toInt = 0 := by decide
  omega
 have u3_136 : 0 ≤ ((tl - (0 : Int32))).toInt := by
  have r1 := rng32 tl
  have k2 : (0 : Int32).toInt = 0 := by decide
  have e3 := c_isub (tl) ((0 : Int32))
  have r3 := rng32 ((tl - (0 : Int32)))
  rw [show (0 : Int32).toInt = 0 from by decide] at e3
  omega
 have u4_136 : (0 : Int32).toInt + ((tl - (0 : Int32))).toInt ≤ L.toInt := by
  have k1 : (0 : Int32).toInt = 0 := by decide
  have r2 := rng32 tl
  have e3 := c_isub (tl) ((0 : Int32))
  have r3 := rng32 ((tl - (0 : Int32)))
  rw [show (0 : Int32).toInt = 0 from by decide] at e3
  have r4 := rng32 L
  omega
 have u5_136 : (0 : Int32).toInt + ((tl - (0 : Int32))).toInt ≤ L2.toInt := by
  have k1 : (0 : Int32).toInt = 0 := by decide
  have r2 := rng32 tl
  have e3 := c_isub (tl) ((0 : Int32))
  have r3 := rng32 ((tl - (0 : Int32)))
  rw [show (0 : Int32).toInt = 0 from by decide] at e3
  have r4 := rng32 L2
  omega
 obtain ⟨T136, h136, L136, X136, e136, N_136, K136, A136, st136⟩ := o_cp X135 hx hZ hown (o_m hw 96 rfl) (o_m hw 99 rfl) (o_m hw 97 rfl) (o_m hw 98 rfl) e135 Y127 Y130 rfl u1_136 u2_136 u3_136 u4_136 u5_136 N_108 g_b26 (g := (o_f16 m 91 pp len (0 : Int32) (len - (0 : Int32)) tm fr [(.int (tl - (0 : Int32))), (.int (0 : Int32)), (.ref b26), (.int (0 : Int32)), (.ref tm)])) rfl (by rw [hml]; rfl) rfl rfl (hb hby o_d10_91) (o_b rfl) (o_b rfl)
 obtain ⟨f136, d_f136⟩ : ∃ z : Nat → Int64, z = (fun i => if (0 : Int32).toNatClampNeg ≤ i ∧ i < (0 : Int32).toNatClampNeg + ((tl - (0 : Int32))).toNatClampNeg then xs ((0 : Int32).toNatClampNeg + (i - (0 : Int32).toNatClampNeg)) else f26 i) := ⟨_, rfl⟩
 replace A136 : o_LA Z h136 b26 L2 f136 := A136.congr fun i _ => by rw [d_f136]; exact (apply_ite Value.long _ _ _).symm
 have Y137 := Y109.keep K136
 have Y138 := Y110.keep K136
 have Y139 := Y111.keep K136
 have Y140 := Y112.keep K136 (ninS ne27 nin0)
 have Y141 := Y113.keep K136 (ninS ne27 nin0)
 have Y142 := Fw108.keep K136 (ninS ne27 nin0)
 have Y143 := Y115.keep K136 (ninS ne27 nin0)
 have Y144 := Y116.keep K136 (ninS ne27 nin0)
 have Y145 := Y117.keep K136 (ninS ne27 nin0)
 have Y146 := Y118.keep K136 (ninS ne27 nin0)
 have Y147 := Y119.keep K136 (ninS ne27 nin0)
 have Y148 := Y120.keep K136 (ninS ne27 nin0)
 have Y149 := Y121.keep K136 (ninS ne27 nin0)
 have Y150 := Y122.keep K136 (ninS ne27 nin0)
 have Y151 := Y123.keep K136 (ninS ne27 nin0)
 have Y152 := Y124.keep K136 (ninS ne27 nin0)
 have Y153 := Y125.keep K136 (ninS ne27 nin0)
 have Y154 := Y126.keep K136 (ninS ne28 nin0)
 have Y156 := Y128.keep K136 (ninS ne31 nin0)
 have Y157 := Y129.keep K136 (ninS ne32 nin0)
 have Y159 := Y131.keep K136 (ninS (Ne.symm ne85) nin0)
 refine o_q T136 (o_f16 m 94 pp len (0 : Int32) (len - (0 : Int32)) tm fr []) st136 ?_
 refine o_q T136 (o_f16 m 96 pp len (0 : Int32) (len - (0 : Int32)) tm fr [(.ref fr)]) (fun _ k9 => XS.aload X136.here hx rfl (hb hby o_d10_94) rfl rfl k9) ?_
 refine o_q T136 (o_f16 m 97 pp len (0 : Int32) (len - (0 : Int32)) tm fr [(.ref pp), (.ref fr)]) (fun _ k9 => XS.aloadN X136.here hx rfl (hb hby o_d10_96) rfl rfl k9) ?_
 refine o_gF X136 hx hZ e136 hby hown (o_m hw 94 rfl) Y143 o_d10_97 fun T160 X160 e160 => ?_
 refine o_q T160 (o_f16 m 101 pp len (0 : Int32) (len - (0 : Int32)) tm fr [(.ref pp), (.int (0 : Int32)), (.ref fr)]) (fun _ k9 => XS.aloadN X160.here hx rfl (hb hby o_d10_100) rfl rfl k9) ?_
 refine o_gF X160 hx hZ e160 hby hown (o_m hw 46 rfl) Y142 o_d10_101 fun T161 X161 e161 => ?_
 refine o_iC (0 : Int32) X161 hx hby o_d10_104 rfl ?_
 refine o_q T161 (o_f16 m 106 pp len (0 : Int32) (len - (0 : Int32)) tm fr [(.ref pp), (.int (0 : Int32)), (.ref b78), (.int (0 : Int32)), (.ref fr)]) (fun _ k9 => XS.aloadN X161.here hx rfl (hb hby o_d10_105) rfl rfl k9) ?_
 refine o_gF X161 hx hZ e161 hby hown (o_m hw 48 rfl) Y144 o_d10_106 fun T162 X162 e162 => ?_
 refine o_q T162 (o_f16 m 110 pp len (0 : Int32) (len - (0 : Int32)) tm fr [(.ref pp), (.int tl), (.int (0 : Int32)), (.ref b78), (.int (0 : Int32)), (.ref fr)]) (fun _ k9 => XS.aloadN X162.here hx rfl (hb hby o_d10_109) rfl rfl k9) ?_
 refine o_gF X162 hx hZ e162 hby hown (o_m hw 94 rfl) Y143 o_d10_110 fun T163 X163 e163 => ?_
 refine o_q T163 (o_f16 m 114 pp len (0 : Int32) (len - (0 : Int32)) tm fr [(.int (tl - (0 : Int32))), (.int (0 : Int32)), (.ref b78), (.int (0 : Int32)), (.ref fr)]) (fun _ k9 => XS.isub X163.here hx rfl (hb hby o_d10_113) rfl k9) ?_
 have u1_164 : 0 ≤ (0 : Int32).toInt := by
  have k1 : (0 : Int32).toInt = 0 := by decide
  omega
 have u2_164 : 0 ≤ (0 : Int32).toInt := by
  have k1 : (0 : Int32).toInt = 0 := by decide
  omega
 have u3_164 : 0 ≤ ((tl - (0 : Int32))).toInt := by
  have r1 := rng32 tl
  have k2 : (0 : Int32).toInt = 0 := by decide
  have e3 := c_isub (tl) ((0 : Int32))
  have r3 := rng32 ((tl - (0 : Int32)))
  rw [show (0 : Int32).toInt = 0 from by decide] at e3
  omega
 have u4_164 : (0 : Int32).toInt + ((tl - (0 : Int32))).toInt ≤ L.toInt := by
  have k1 : (0 : Int32).toInt = 0 := by decide
  have r2 := rng32 tl
  have e3 := c_isub (tl) ((0 : Int32))
  have r3 := rng32 ((tl - (0 : Int32)))
  rw [show (0 : Int32).toInt = 0 from by decide] at e3
  have r4 := rng32 L
  omega
 have u5_164 : (0 : Int32).toInt + ((tl - (0 : Int32))).toInt ≤ L2.toInt := by
  have k1 : (0 : Int32).toInt = 0 := by decide
  have r2 := rng32 tl
  have e3 := c_isub (tl) ((0 : Int32))
  have r3 := rng32 ((tl - (0 : Int32)))
  rw [show (0 : Int32).toInt = 0 from by decide] at e3
  have r4 := rng32 L2
  omega
 obtain ⟨T164, h164, L164, X164, e164, N_164, K164, A164, st164⟩ := o_cp X163 hx hZ hown (o_m hw 96 rfl) (o_m hw 99 rfl) (o_m hw 97 rfl) (o_m hw 98 rfl) e163 Y156 Y159 rfl u1_164 u2_164 u3_164 u4_164 u5_164 N_136 g_b78 (g := (o_f16 m 114 pp len (0 : Int32) (len - (0 : Int32)) tm fr [(.int (tl - (0 : Int32))), (.int (0 : Int32)), (.ref b78), (.int (0 : Int32)), (.ref fr)])) rfl (by rw [hml]; rfl) rfl rfl (hb hby o_d10_114) (o_b rfl) (o_b rfl)
 obtain ⟨f164, d_f164⟩ : ∃ z : Nat → Int32, z = (fun i => if (0 : Int32).toNatClampNeg ≤ i ∧ i < (0 : Int32).toNatClampNeg + ((tl - (0 : Int32))).toNatClampNeg then fs ((0 : Int32).toNatClampNeg + (i - (0 : Int32).toNatClampNeg)) else f78 i) := ⟨_, rfl⟩
 replace A164 : o_IA Z h164 b78 L2 f164 := A164.congr fun i _ => by rw [d_f164]; exact (apply_ite Value.int _ _ _).symm
 have Y165 := Y137.keep K164
 have Y166 := Y138.keep K164
 have Y167 := Y139.keep K164
 have Y168 := Y140.keep K164 (ninS ne79 nin0)
 have Y169 := Y141.keep K164 (ninS ne79 nin0)
 have Y170 := Y142.keep K164 (ninS ne79 nin0)
 have Y171 := Y143.keep K164 (ninS ne79 nin0)
 have Y172 := Y144.keep K164 (ninS ne79 nin0)
 have Y173 := Y145.keep K164 (ninS ne79 nin0)
 have Y174 := Y146.keep K164 (ninS ne79 nin0)
 have Y175 := Y147.keep K164 (ninS ne79 nin0)
 have Y176 := Y148.keep K164 (ninS ne79 nin0)
 have Y177 := Y149.keep K164 (ninS ne79 nin0)
 have Y178 := Y150.keep K164 (ninS ne79 nin0)
 have Y179 := Y151.keep K164 (ninS ne79 nin0)
 have Y180 := Y152.keep K164 (ninS ne79 nin0)
 have Y181 := Y153.keep K164 (ninS ne79 nin0)
 have Y182 := Y154.keep K164 (ninS ne80 nin0)
 have Y185 := Y157.keep K164 (ninS ne84 nin0)
 have Y186 := A136.keep K164 (ninS ne85 nin0)
 refine o_q T164 (o_f16 m 117 pp len (0 : Int32) (len - (0 : Int32)) tm fr []) st164 ?_
 refine o_q T164 (o_f16 m 118 pp len (0 : Int32) (len - (0 : Int32)) tm fr [(.ref pp)]) (fun _ k9 => XS.aloadN X164.here hx rfl (hb hby o_d10_117) rfl rfl k9) ?_
 refine o_iC (0 : Int32) X164 hx hby o_d10_118 rfl ?_
 refine o_pF X164 hx hZ e164 hby (ty := .int) hown (o_m hw 94 rfl) Y171 Y165 (Or.inl (o_m hw 95 rfl)) (o_m hw 8 rfl) (by decide) rfl rfl o_d10_119 fun T188 h188 X188 e188 W188 => ?_
 have Fw188 := Y171.same W188
 have N_188 := Fr.snoc X188 N_164 gp1
 have Y189 := Y165.wr W188
 have Y190 := Y166.wr W188
 have Y191 := Y167.wr W188
 have Y192 := Y168.other W188 (o_sn (Or.inr (o_m hw 41 rfl)) (Or.inl (o_m hw 95 rfl)))
 have Y193 := Y169.other W188 (o_sn (Or.inl (o_m hw 44 rfl)) (Or.inl (o_m hw 95 rfl)))
 have Y194 := Y170.other W188 (o_sn (Or.inl (o_m hw 47 rfl)) (Or.inl (o_m hw 95 rfl)))
 have Y196 := Y172.other W188 (o_sn (Or.inl (o_m hw 49 rfl)) (Or.inl (o_m hw 95 rfl)))
 have Y197 := Y173.other W188 (o_sn (Or.inl (o_m hw 149 rfl)) (Or.inl (o_m hw 95 rfl)))
 have Y198 := Y174.other W188 (o_sn (Or.inr (o_m hw 26 rfl)) (Or.inl (o_m hw 95 rfl)))
 have Y199 := Y175.other W188 (o_sn (Or.inl (o_m hw 66 rfl)) (Or.inl (o_m hw 95 rfl)))
 have Y200 := Y176.other W188 (o_sn (Or.inl (o_m hw 39 rfl)) (Or.inl (o_m hw 95 rfl)))
 have Y201 := Y177.other W188 (o_sn (Or.inl (o_m hw 68 rfl)) (Or.inl (o_m hw 95 rfl)))
 have Y202 := Y178.other W188 (o_sn (Or.inl (o_m hw 80 rfl)) (Or.inl (o_m hw 95 rfl)))
 have Y203 := Y179.other W188 (o_sn (Or.inl (o_m hw 177 rfl)) (Or.inl (o_m hw 95 rfl)))
 have Y204 := Y180.other W188 (o_sn (Or.inl (o_m hw 179 rfl)) (Or.inl (o_m hw 95 rfl)))
 have Y205 := Y181.other W188 (o_sn (Or.inr (o_m hw 35 rfl)) (Or.inl (o_m hw 95 rfl)))
 have Y206 := Y182.other W188 (Or.inl (Ne.symm ne2))
 have Y209 := Y185.other W188 (Ne.symm ne7)
 have Y210 := Y186.other W188 (Ne.symm ne27)
 have Y211 := A164.other W188 (Ne.symm ne79)
 refine o_q T188 (o_f16 m 123 pp len (0 : Int32) (len - (0 : Int32)) tm fr [(.ref pp)]) (fun _ k9 => XS.aloadN X188.here hx rfl (hb hby o_d10_122) rfl rfl k9) ?_
 refine o_q T188 (o_f16 m 124 pp len (0 : Int32) (len - (0 : Int32)) tm fr [(.ref pp), (.ref pp)]) (fun _ k9 => XS.dup X188.here hx rfl (hb hby o_d10_123) rfl rfl k9) ?_
 refine o_gF X188 hx hZ e188 hby hown (o_m hw 48 rfl) Y196 o_d10_124 fun T212 X212 e212 => ?_
 refine o_q T212 (o_f16 m 128 pp len (0 : Int32) (len - (0 : Int32)) tm fr [(.int (0 : Int32)), (.int tl), (.ref pp)]) (fun _ k9 => XS.iloadN X212.here hx rfl (hb hby o_d10_127) rfl k9) ?_
 refine o_q T212 (o_f16 m 129 pp len (0 : Int32) (len - (0 : Int32)) tm fr [(.int (tl - (0 : Int32))), (.ref pp)]) (fun _ k9 => XS.isub X212.here hx rfl (hb hby o_d10_128) rfl k9) ?_
 refine o_pF X212 hx hZ e212 hby (ty := .int) hown (o_m hw 48 rfl) Y196 Y189 (Or.inl (o_m hw 49 rfl)) (o_m hw 8 rfl) (by decide) rfl rfl o_d10_129 fun T213 h213 X213 e213 W213 => ?_
 have Fw213 := Y196.same W213
 have N_213 := Fr.snoc X213 N_188 gp1
 have Y214 := Y189.wr W213
 have Y215 := Y190.wr W213
 have Y216 := Y191.wr W213
 have Y217 := Y192.other W213 (o_sn (Or.inr (o_m hw 41 rfl)) (Or.inl (o_m hw 49 rfl)))
 have Y218 := Y193.other W213 (o_sn (Or.inl (o_m hw 44 rfl)) (Or.inl (o_m hw 49 rfl)))
 have Y219 := Y194.other W213 (o_sn (Or.inl (o_m hw 47 rfl)) (Or.inl (o_m hw 49 rfl)))
 have Y220 := Fw188.other W213 (o_sn (Or.inl (o_m hw 95 rfl)) (Or.inl (o_m hw 49 rfl)))
 have Y222 := Y197.other W213 (o_sn (Or.inl (o_m hw 149 rfl)) (Or.inl (o_m hw 49 rfl)))
 have Y223 := Y198.other W213 (o_sn (Or.inr (o_m hw 26 rfl)) (Or.inl (o_m hw 49 rfl)))
 have Y224 := Y199.other W213 (o_sn (Or.inl (o_m hw 66 rfl)) (Or.inl (o_m hw 49 rfl)))
 have Y225 := Y200.other W213 (o_sn (Or.inl (o_m hw 39 rfl)) (Or.inl (o_m hw 49 rfl)))
 have Y226 := Y201.other W213 (o_sn (Or.inl (o_m hw 68 rfl)) (Or.inl (o_m hw 49 rfl)))
 have Y227 := Y202.other W213 (o_sn (Or.inl (o_m hw 80 rfl)) (Or.inl (o_m hw 49 rfl)))
 have Y228 := Y203.other W213 (o_sn (Or.inl (o_m hw 177 rfl)) (Or.inl (o_m hw 49 rfl)))
 have Y229 := Y204.other W213 (o_sn (Or.inl (o_m hw 179 rfl)) (Or.inl (o_m hw 49 rfl)))
 have Y230 := Y205.other W213 (o_sn (Or.inr (o_m hw 35 rfl)) (Or.inl (o_m hw 49 rfl)))
 have Y231 := Y206.other W213 (Or.inl (Ne.symm ne2))
 have Y234 := Y209.other W213 (Ne.symm ne7)
 have Y235 := Y210.other W213 (Ne.symm ne27)
 have Y236 := Y211.other W213 (Ne.symm ne79)
 have tz : tl - (0 : Int32) = tl := Int32.sub_zero tl
 have Ft237 := Fw213
 rw [tz] at Ft237
 refine o_q T213 (o_f16 m 133 pp len (0 : Int32) (len - (0 : Int32)) tm fr [(.ref pp)]) (fun _ k9 => XS.aloadN X213.here hx rfl (hb hby o_d10_132) rfl rfl k9) ?_
 refine o_gF X213 hx hZ e213 hby hown (o_m hw 25 rfl) Y223 o_d10_133 fun T238 X238 e238 => ?_
 have hP239 : o_Pr Z n0 pp rc ru wa b26 b78 tl la L2 ch gb f136 f164 rs h213 := ⟨Y214, Y215, Y216, Y217, Y218, Y219, Y220, Ft237, Y222, Y223, Y224, Y225, Y226, Y227, Y228, Y229, Y230, Y231, Y235, Y236, Y234, (Ne.symm ne32), wl1, gp1, g_b26, g_b78, gr1, gu1⟩
 obtain ⟨v240, T240, L240, hQ240, X240, st240⟩ := o_callV X238 hx hZ e238 hown (o_m hw 155 rfl) (o_m hw 156 rfl) (o_m hw 158 rfl) (o_m hw 157 rfl) (by decide) (b := ru) Y215 (o_m hw 159 rfl) (o_m hw 18 rfl) (o_moved l Z a0 hw n0 pp rc ru wa b26 b78 tl la L2 ch gb f136 f164 rs  h213 hP239 ) (g := (o_f16 m 136 pp len (0 : Int32) (len - (0 : Int32)) tm fr [(.ref ru)])) rfl (by rw [hml]; rfl) rfl (argsL := []) (rest := []) rfl (lenOf o_pd0 rfl) rfl (hb hby o_d10_136) (o_b rfl) (o_b rfl) (o_b rfl) (o_b rfl)
 obtain ⟨h240, e240⟩ : ∃ z, T240.heap = z := ⟨_, rfl⟩
 rw [e240] at hQ240
 obtain ⟨rfl, N240, hR240⟩ := hQ240
 have N_240 := Fr.app N_213 N240
 obtain ⟨Ep241, Er241, Ew241, F241_cpus, F241_times, F241_free, F241_head, F241_tail, F241_lastAt, F241_runs, F241_firstKnown, F241_watcher, F241_watchedAs, F241_changes, F241_merged, F241_gaveBack, F241_recent, Fn241, At241, Af241, Ar241, nt241, wl241, gp241, gt241, gf241, gr241, gu241⟩ := hR240
 refine o_q T240 (o_f16 m 139 pp len (0 : Int32) (len - (0 : Int32)) tm fr []) st240 ?_
 refine o_q T240 (o_f16 m 140 pp len (0 : Int32) (len - (0 : Int32)) tm fr [(.int (0 : Int32))]) (fun _ k9 => XS.iloadN X240.here hx rfl (hb hby o_d10_139) rfl k9) ?_
 have hP256 : o_Pr Z n0 pp rc ru wa b26 b78 tl la L2 ch gb f136 f164 rs h240 := ⟨Ep241, Er241, Ew241, F241_cpus, F241_times, F241_free, F241_head, F241_tail, F241_lastAt, F241_runs, F241_firstKnown, F241_watcher, F241_watchedAs, F241_changes, F241_merged, F241_gaveBack, F241_recent, Fn241, At241, Af241, Ar241, nt241, wl241, gp241, gt241, gf241, gr241, gu241⟩
 have ma257 : ((tl - (0 : Int32))).toNatClampNeg = tl.toNatClampNeg := by
  have r1 := rng32 tl
  have k2 : (0 : Int32).toInt = 0 := by decide
  have e3 := c_isub (tl) ((0 : Int32))
  have r3 := rng32 ((tl - (0 : Int32)))
  rw [show (0 : Int32).toInt = 0 from by decide] at e3
  have n0 := o_nat (tl) (by omega)
  have n1 := o_nat ((tl - (0 : Int32))) (by omega)
  omega
 have K258 : ∀ i, i < tl.toNatClampNeg → f136 i = xs i := fun i hi => by rw [d_f136]; dsimp only; rw [ma257, show (0 : Int32).toNatClampNeg = 0 from rfl, if_pos (by omega)]; congr 1; omega
 have K259 : ∀ i, i < tl.toNatClampNeg → f164 i = fs i := fun i hi => by rw [d_f164]; dsimp only; rw [ma257, show (0 : Int32).toNatClampNeg = 0 from rfl, if_pos (by omega)]; congr 1; omega
 refine o_retI X240 hx hlk hret (hb hby o_d10_140) ?_ (o_b rfl) (o_b rfl)
 rw [e240]
 exact ⟨b26, b78, f136, f164, rfl, N_240, hP256, K258, K259⟩
theorem o_vv_m1 (x v : Int32) (lo hi : Int) (bb : lo ≤ x.toInt ∧ x.toInt ≤ hi) (q5 : 0 ≤ lo + (-1)) (q6 : hi + (-1) ≤ 16) (ev : v = x + (-1 : Int32)) : v.toInt = x.toInt + (-1) ∧ 0 ≤ v.toInt ∧ v.toInt ≤ 16 := by
 have e1 : (x + (-1 : Int32)).toInt = x.toInt + (-1) := by
  rw [Jvm.Free.XT.add32 ⟨by rw [show (-1 : Int32).toInt = -1 from by decide]; omega, by rw [show (-1 : Int32).toInt = -1 from by decide]; omega⟩]; rw [show (-1 : Int32).toInt = -1 from by decide]
 rw [ev, e1]
 omega
theorem o_d7_110 : decode o_y12 110 = .ok (.iload 9, 2) := by decide +kernel
theorem o_d7_112 : decode o_y12 112 = .ok (.iload 8, 2) := by decide +kernel
theorem o_d7_114 : decode o_y12 114 = .ok (.if_icmp .ge 39, 3) := by decide +kernel
theorem o_d7_117 : decode o_y12 117 = .ok (.aload_n 0, 1) := by decide +kernel
theorem o_d7_118 : decode o_y12 118 = .ok (.getfield 49, 3) := by decide +kernel
theorem o_d7_121 : decode o_y12 121 = .ok (.iload 9, 2) := by decide +kernel
theorem o_d7_123 : decode o_y12 123 = .ok (.dup2, 1) := by decide +kernel
theorem o_d7_124 : decode o_y12 124 = .ok (.iaload, 1) := by decide +kernel
theorem o_d7_125 : decode o_y12 125 = .ok (.iload 5, 2) := by decide +kernel
theorem o_d7_127 : decode o_y12 127 = .ok (.iadd, 1) := by decide +kernel
theorem o_d7_128 : decode o_y12 128 = .ok (.iastore, 1) := by decide +kernel
theorem o_d7_129 : decode o_y12 129 = .ok (.aload_n 0, 1) := by decide +kernel
theorem o_d7_130 : decode o_y12 130 = .ok (.aload_n 0, 1) := by decide +kernel
theorem o_d7_131 : decode o_y12 131 = .ok (.getfield 49, 3) := by decide +kernel
theorem o_d7_134 : decode o_y12 134 = .ok (.iload 9, 2) := by decide +kernel
theorem o_d7_136 : decode o_y12 136 = .ok (.iaload, 1) := by decide +kernel
theorem o_d7_137 : decode o_y12 137 = .ok (.aload_n 0, 1) := by decide +kernel
theorem o_d7_138 : decode o_y12 138 = .ok (.getfield 46, 3) := by decide +kernel
theorem o_d7_141 : decode o_y12 141 = .ok (.iload 9, 2) := by decide +kernel
theorem o_d7_143 : decode o_y12 143 = .ok (.laload, 1) := by decide +kernel
theorem o_d7_144 : decode o_y12 144 = .ok (.invokevirtual 237, 3) := by decide +kernel
theorem o_d14_0 : decode o_y13 0 = .ok (.iload_n 1, 1) := by decide +kernel
theorem o_d14_1 : decode o_y13 1 = .ok (.ifCond .lt 11, 3) := by decide +kernel
theorem o_d14_4 : decode o_y13 4 = .ok (.iload_n 1, 1) := by decide +kernel
theorem o_d14_5 : decode o_y13 5 = .ok (.aload_n 0, 1) := by decide +kernel
theorem o_d14_6 : decode o_y13 6 = .ok (.getfield 40, 3) := by decide +kernel
theorem o_d14_9 : decode o_y13 9 = .ok (.if_icmp .le 22, 3) := by decide +kernel
theorem o_d14_31 : decode o_y13 31 = .ok (.return_, 1) := by decide +kernel
theorem o_pn14 : plainFor (⟨o_n1, "check", "(IJ)V"⟩ : MethodName) = true := plainFor_of_name (by first | (simp [plainName, overriddenIn]; done) | decide +kernel)
set_option maxRecDepth 65536 in
set_option maxHeartbeats 40000000 in
theorem o_k14_6 (l : Launch) (Z : State) (a0 : Array Value) (hw : ∀ d ∈ tables_1, d.before a0 Z = true) (p0 : Addr) (p1 : Int32) (p2 : Int64) (h0 : Heap) (H0 : ¬ (p1 < (0 : Int32))) (H1 : Fld Z h0 p0 o_n1 "cpus" "I" (.int (16 : Int32))) (H2 : ¬ ((16 : Int32) < p1)) :
  o_C l (⟨o_n1, "check", "(IJ)V"⟩ : MethodName) o_y13 4 none (o_R 0 0 0 0) Z h0 #[(.ref p0), (.int p1), (.long p2)] (o_P none h0) := by
 refine o_body o_pn14 ?_
 intro p e s m below meth c s₁ hx hby hml hZ hown hnm hret hlk X0 e0
 refine o_cast (f' := (o_f17 m 0 p0 p1 p2 [])) (by first | (simp [entryFrame, mkF, argsToLocals, Value.category, maxLocals]; done) | rfl) ?_
 refine o_q s₁ (o_f17 m 1 p0 p1 p2 [(.int p1)]) (fun _ k9 => XS.iloadN X0.here hx rfl (hb hby o_d14_0) rfl k9) ?_
 refine o_fN X0 hx hby o_d14_1 ((if0 _ _).trans (flt H0).1) ?_
 refine o_q s₁ (o_f17 m 5 p0 p1 p2 [(.int p1)]) (fun _ k9 => XS.iloadN X0.here hx rfl (hb hby o_d14_4) rfl k9) ?_
 refine o_q s₁ (o_f17 m 6 p0 p1 p2 [(.ref p0), (.int p1)]) (fun _ k9 => XS.aloadN X0.here hx rfl (hb hby o_d14_5) rfl rfl k9) ?_
 refine o_gF X0 hx hZ e0 hby hown (o_m hw 40 rfl) H1 o_d14_6 fun T1 X1 e1 => ?_
 refine o_cY 31 X1 hx hby o_d14_9 (flt H2).2.2.2 ?_
 exact o_retV X1 hx hlk hret (hb hby o_d14_31) ⟨rfl, rfl, e1⟩ (by decide) (by decide)
theorem o_pd7 : parseMethodDescriptor "(IJ)V" = some ⟨[.int, .long], none⟩ := by decide +kernel
theorem o_d7_147 : decode o_y12 147 = .ok (.iinc 9 1, 3) := by decide +kernel
theorem o_d7_150 : decode o_y12 150 = .ok (.goto (-40), 3) := by decide +kernel
theorem o_d7_153 : decode o_y12 153 = .ok (.aload_n 0, 1) := by decide +kernel
theorem o_d7_154 : decode o_y12 154 = .ok (.getfield 14, 3) := by decide +kernel
theorem o_d7_157 : decode o_y12 157 = .ok (.iload 7, 2) := by decide +kernel
theorem o_d7_159 : decode o_y12 159 = .ok (.iload 8, 2) := by decide +kernel
theorem o_d7_161 : decode o_y12 161 = .ok (.invokevirtual 286, 3) := by decide +kernel
theorem o_d15_0 : decode o_y14 0 = .ok (.aload_n 0, 1) := by decide +kernel
theorem o_d15_1 : decode o_y14 1 = .ok (.getfield 15, 3) := by decide +kernel
theorem o_d15_4 : decode o_y14 4 = .ok (.ifnull 8, 3) := by decide +kernel
theorem o_d15_12 : decode o_y14 12 = .ok (.return_, 1) := by decide +kernel
theorem o_pn15 : plainFor (⟨o_n3, "changed", "(II)V"⟩ : MethodName) = true := plainFor_of_name (by first | (simp [plainName, overriddenIn]; done) | decide +kernel)
set_option maxRecDepth 65536 in
set_option maxHeartbeats 40000000 in
theorem o_k15_7 (l : Launch) (Z : State) (a0 : Array Value) (hw : ∀ d ∈ tables_1, d.before a0 Z = true) (p0 : Addr) (p1 : Int32) (p2 : Int32) (h0 : Heap) (H0 : Fld Z h0 p0 o_n3 "nodes" "[[J" .null) :
  o_C l (⟨o_n3, "changed", "(II)V"⟩ : MethodName) o_y14 4 none (o_R 0 0 0 0) Z h0 #[(.ref p0), (.int p1), (.int p2)] (o_P none h0) := by
 refine o_body o_pn15 ?_
 intro p e s m below meth c s₁ hx hby hml hZ hown hnm hret hlk X0 e0
 refine o_cast (f' := (o_f18 m 0 p0 p1 p2 [])) (by first | (simp [entryFrame, mkF, argsToLocals, Value.category, maxLocals]; done) | rfl) ?_
 refine o_q s₁ (o_f18 m 1 p0 p1 p2 [(.ref p0)]) (fun _ k9 => XS.aloadN X0.here hx rfl (hb hby o_d15_0) rfl rfl k9) ?_
 refine o_gF X0 hx hZ e0 hby hown (o_m hw 105 rfl) H0 o_d15_1 fun T1 X1 e1 => ?_
 refine o_q T1 (o_f18 m 12 p0 p1 p2 []) (fun _ k9 => XS.ifnullYes X1.here hx rfl (pc0 := 4) (pc' := 12) rfl (hb hby o_d15_4) rfl (by decide) (by decide) k9) ?_
 exact o_retV X1 hx hlk hret (hb hby o_d15_12) ⟨rfl, rfl, e1⟩ (by decide) (by decide)
theorem o_pd5 : parseMethodDescriptor "(II)V" = some ⟨[.int, .int], none⟩ := by decide +kernel
theorem o_d7_164 : decode o_y12 164 = .ok (.aload_n 0, 1) := by decide +kernel
theorem o_d7_165 : decode o_y12 165 = .ok (.iload 8, 2) := by decide +kernel
theorem o_d7_167 : decode o_y12 167 = .ok (.invokevirtual 290, 3) := by decide +kernel
theorem o_d7_170 : decode o_y12 170 = .ok (.aload_n 0, 1) := by decide +kernel
theorem o_d7_171 : decode o_y12 171 = .ok (.iload 7, 2) := by decide +kernel
theorem o_d7_173 : decode o_y12 173 = .ok (.invokevirtual 290, 3) := by decide +kernel
theorem o_d7_176 : decode o_y12 176 = .ok (.return_, 1) := by decide +kernel
set_option maxRecDepth 65536 in
set_option maxHeartbeats 40000000 in
theorem o_addN_m1_loop {p : Program} {l : Launch} {e : Env} {s : State} {m : MethodId} {below : List Frame} {meth : Method} {c : Code} (Z : State) (a0 : Array Value) (hw : ∀ d ∈ tables_1, d.before a0 Z = true) (n0 : Nat) (pp rc ru wa tmx frx : Addr) (tlx lax L : Int32) (chx gbx : Int64) (xsx : Nat → Int64) (rsx : Nat → Int64) (kp fst aft : Int32) (start ending : Int64) (lo hi lo1 hi1 : Int) (i1 : 1 ≤ tlx.toInt) (i2 : tlx.toInt ≤ L.toInt) (i3 : L.toInt ≤ 32) (f1 : aft.toInt < tlx.toInt) (f2 : 0 ≤ aft.toInt) (f3 : 0 ≤ fst.toInt) (Dd : o_D lo hi lo1 hi1 (-1))
  (hx : p.tables.exec = Jvm.exec) (hby : c.code = o_y12) (hml : c.maxLocals = 10) (hZ : Z.Warmed39 s.vm) (hown : s.vm.findClass o_n1 = some m.cls) (hret : meth.sig.returnType = none) (hlk : meth.locks = false) :
  ∀ (k : Nat) (kk : Int32) (fsc : Nat → Int32) (locs : List Loc) (hh : Heap) {T : State} (X0 : Stand p l e (o_R 5 0 0 100) s m #[(.ref pp), (.long start), (.long ending), (.int (-1 : Int32))] below meth c T locs 0 0) (e0 : T.heap = hh), Fr n0 locs → o_Pr Z n0 pp rc ru wa tmx frx tlx lax L chx gbx xsx fsc rsx hh → kk.toInt ≤ 33 → 0 ≤ kk.toInt → aft.toInt - kk.toInt + 40 ≤ (k : Int) → o_S lo1 hi1 tlx.toNatClampNeg xsx fsc → (∀ j, kk.toNatClampNeg ≤ j → j + 1 < tlx.toNatClampNeg → lo ≤ (fsc j).toInt ∧ (fsc j).toInt ≤ hi) → o_G p e below s (fun v h Ls => ∃ (tl' : Int32) (xs' : Nat → Int64) (fs' : Nat → Int32), v = none ∧ Fr n0 Ls ∧ o_Pr Z n0 pp rc ru wa tmx frx tl' lax L chx gbx xs' fs' rsx h ∧ 1 ≤ tl'.toInt ∧ tl'.toInt ≤ tlx.toInt ∧ xs' 0 = xsx 0 ∧ o_S lo1 hi1 tl'.toNatClampNeg xs' fs') 0 0 T (o_f19 m 110 pp start ending (-1 : Int32) kp fst aft kk []) := by
 intro k
 induction k with
 | zero => intro kk fsc locs hh T X0 e0 NL hP g1 g0 g2 Sx Uk; exfalso; omega
 | succ k ih =>
 intro kk fsc locs hh T X0 e0 NL hP g1 g0 g2 Sx Uk
 obtain ⟨Ep1, Er1, Ew1, F1_cpus, F1_times, F1_free, F1_head, F1_tail, F1_lastAt, F1_runs, F1_firstKnown, F1_watcher, F1_watchedAs, F1_changes, F1_merged, F1_gaveBack, F1_recent, Fn1, At1, Af1, Ar1, nt1, wl1, gp1, gt1, gf1, gr1, gu1⟩ := hP
 have ne5 : o_ne pp frx := Af1.neExa Ep1 (o_m hw 8 rfl)
 have ne6 : o_ne ru frx := Af1.neExa Er1 (o_m hw 17 rfl)
 have ne14 : o_ne tmx frx := At1.ne Af1 (by intro q; cases q)
 have ne15 : o_ne frx rc := Af1.ne Ar1 (by intro q; cases q)
 refine o_q T (o_f19 m 112 pp start ending (-1 : Int32) kp fst aft kk [(.int kk)]) (fun _ k9 => XS.iload X0.here hx rfl (hb hby o_d7_110) rfl k9) ?_
 refine o_q T (o_f19 m 114 pp start ending (-1 : Int32) kp fst aft kk [(.int aft), (.int kk)]) (fun _ k9 => XS.iload X0.here hx rfl (hb hby o_d7_112) rfl k9) ?_
 by_cases c0 : kk < aft
 ·refine o_cN X0 hx hby o_d7_114 (tlt c0).2.1 ?_
  refine o_q T (o_f19 m 118 pp start ending (-1 : Int32) kp fst aft kk [(.ref pp)]) (fun _ k9 => XS.aloadN X0.here hx rfl (hb hby o_d7_117) rfl rfl k9) ?_
  refine o_gF X0 hx hZ e0 hby hown (o_m hw 46 rfl) F1_free o_d7_118 fun T16 X16 e16 => ?_
  refine o_q T16 (o_f19 m 123 pp start ending (-1 : Int32) kp fst aft kk [(.int kk), (.ref frx)]) (fun _ k9 => XS.iload X16.here hx rfl (hb hby o_d7_121) rfl k9) ?_
  refine o_q T16 (o_f19 m 124 pp start ending (-1 : Int32) kp fst aft kk [(.int kk), (.ref frx), (.int kk), (.ref frx)]) (fun _ k9 => Jvm.Free.XT.dup2 X16.here hx rfl (hb hby o_d7_123) rfl rfl rfl k9) ?_
  have hin17 : ¬ (kk < (0 : Int32)) ∧ kk < L := by
   have r1 := rng32 kk
   have r2 := rng32 L
   have k3 : (0 : Int32).toInt = 0 := by decide
   have r4 := rng32 aft
   have d0 : kk.toInt < aft.toInt := Int32.lt_iff_toInt_lt.mp c0
   rw [Int32.lt_iff_toInt_lt, Int32.lt_iff_toInt_lt]
   omega
  refine o_dI X16 hx hZ e16 hby Af1 hin17 o_d7_124 ?_
  refine o_q T16 (o_f19 m 127 pp start ending (-1 : Int32) kp fst aft kk [(.int (-1 : Int32)), (.int (fsc kk.toNatClampNeg)), (.int kk), (.ref frx)]) (fun _ k9 => XS.iload X16.here hx rfl (hb hby o_d7_125) rfl k9) ?_
  refine o_q T16 (o_f19 m 128 pp start ending (-1 : Int32) kp fst aft kk [(.int ((fsc kk.toNatClampNeg) + (-1 : Int32))), (.int kk), (.ref frx)]) (fun _ k9 => XS.iadd X16.here hx rfl (hb hby o_d7_127) rfl k9) ?_
  have hin18 : ¬ (kk < (0 : Int32)) ∧ kk < L := by
   have r1 := rng32 kk
   have r2 := rng32 L
   have k3 : (0 : Int32).toInt = 0 := by decide
   have r4 := rng32 aft
   have d0 : kk.toInt < aft.toInt := Int32.lt_iff_toInt_lt.mp c0
   rw [Int32.lt_iff_toInt_lt, Int32.lt_iff_toInt_lt]
   omega
  refine o_tI X16 hx hZ e16 hby Af1 hin18 o_d7_128 fun T19 h19 X19 e19 W19 A19 => ?_
  obtain ⟨f19, d_f19⟩ : ∃ z : Nat → Int32, z = (fun i => if i = kk.toNatClampNeg then ((fsc kk.toNatClampNeg) + (-1 : Int32)) else fsc i) := ⟨_, rfl⟩
  rw [← d_f19] at A19
  have N_19 := Fr.snoc X19 NL gf1
  have Y20 := Ep1.wr W19
  have Y21 := Er1.wr W19
  have Y22 := Ew1.wr W19
  have Y23 := F1_cpus.other W19 (Or.inl ne5)
  have Y24 := F1_times.other W19 (Or.inl ne5)
  have Y25 := F1_free.other W19 (Or.inl ne5)
  have Y26 := F1_head.other W19 (Or.inl ne5)
  have Y27 := F1_tail.other W19 (Or.inl ne5)
  have Y28 := F1_lastAt.other W19 (Or.inl ne5)
  have Y29 := F1_runs.other W19 (Or.inl ne5)
  have Y30 := F1_firstKnown.other W19 (Or.inl ne5)
  have Y31 := F1_watcher.other W19 (Or.inl ne5)
  have Y32 := F1_watchedAs.other W19 (Or.inl ne5)
  have Y33 := F1_changes.other W19 (Or.inl ne5)
  have Y34 := F1_merged.other W19 (Or.inl ne5)
  have Y35 := F1_gaveBack.other W19 (Or.inl ne5)
  have Y36 := F1_recent.other W19 (Or.inl ne5)
  have Y37 := Fn1.other W19 (Or.inl ne6)
  have Y38 := At1.other W19 ne14
  have Y40 := Ar1.other W19 (Ne.symm ne15)
  refine o_q T19 (o_f19 m 130 pp start ending (-1 : Int32) kp fst aft kk [(.ref pp)]) (fun _ k9 => XS.aloadN X19.here hx rfl (hb hby o_d7_129) rfl rfl k9) ?_
  refine o_q T19 (o_f19 m 131 pp start ending (-1 : Int32) kp fst aft kk [(.ref pp), (.ref pp)]) (fun _ k9 => XS.aloadN X19.here hx rfl (hb hby o_d7_130) rfl rfl k9) ?_
  refine o_gF X19 hx hZ e19 hby hown (o_m hw 46 rfl) Y25 o_d7_131 fun T41 X41 e41 => ?_
  refine o_q T41 (o_f19 m 136 pp start ending (-1 : Int32) kp fst aft kk [(.int kk), (.ref frx), (.ref pp)]) (fun _ k9 => XS.iload X41.here hx rfl (hb hby o_d7_134) rfl k9) ?_
  have hin42 : ¬ (kk < (0 : Int32)) ∧ kk < L := by
   have r1 := rng32 kk
   have r2 := rng32 L
   have k3 : (0 : Int32).toInt = 0 := by decide
   have r4 := rng32 aft
   have d0 : kk.toInt < aft.toInt := Int32.lt_iff_toInt_lt.mp c0
   rw [Int32.lt_iff_toInt_lt, Int32.lt_iff_toInt_lt]
   omega
  refine o_dI X41 hx hZ e41 hby A19 hin42 o_d7_136 ?_
  refine o_q T41 (o_f19 m 138 pp start ending (-1 : Int32) kp fst aft kk [(.ref pp), (.int (f19 kk.toNatClampNeg)), (.ref pp)]) (fun _ k9 => XS.aloadN X41.here hx rfl (hb hby o_d7_137) rfl rfl k9) ?_
  refine o_gF X41 hx hZ e41 hby hown (o_m hw 43 rfl) Y24 o_d7_138 fun T43 X43 e43 => ?_
  refine o_q T43 (o_f19 m 143 pp start ending (-1 : Int32) kp fst aft kk [(.int kk), (.ref tmx), (.int (f19 kk.toNatClampNeg)), (.ref pp)]) (fun _ k9 => XS.iload X43.here hx rfl (hb hby o_d7_141) rfl k9) ?_
  have hin44 : ¬ (kk < (0 : Int32)) ∧ kk < L := by
   have r1 := rng32 kk
   have r2 := rng32 L
   have k3 : (0 : Int32).toInt = 0 := by decide
   have r4 := rng32 aft
   have d0 : kk.toInt < aft.toInt := Int32.lt_iff_toInt_lt.mp c0
   rw [Int32.lt_iff_toInt_lt, Int32.lt_iff_toInt_lt]
   omega
  refine o_dJ X43 hx hZ e43 hby Y38 hin44 o_d7_143 ?_
  have ev45 : (f19 kk.toNatClampNeg) = fsc kk.toNatClampNeg + (-1 : Int32) := by rw [d_f19]; dsimp only; rw [if_pos rfl]
  have kn45 : kk.toNatClampNeg + 1 < tlx.toNatClampNeg := by
   have r1 := rng32 kk
   have r2 := rng32 aft
   have r3 := rng32 tlx
   have d0 : kk.toInt < aft.toInt := Int32.lt_iff_toInt_lt.mp c0
   have n0 := o_nat (kk) (by omega)
   have n1 := o_nat (tlx) (by omega)
   omega
  have bb45 := Uk _ (Nat.le_refl _) kn45
  have Dq45 := Dd
  obtain ⟨-, -, -, -, q5, q6, -, -⟩ := Dq45
  have vv45 := o_vv_m1 _ _ lo hi bb45 q5 q6 ev45
  obtain ⟨v46, T46, L46, hQ46, X46, st46⟩ := o_callP X43 hx hZ e43 hown (o_m hw 107 rfl) (o_m hw 108 rfl) (o_m hw 8 rfl) (o_m hw 109 rfl) (by decide) (a := pp) Y20 (o_m hw 110 rfl) (o_m hw 9 rfl) (o_k14_6 l Z a0 hw pp (f19 kk.toNatClampNeg) (xsx kk.toNatClampNeg) h19 (o_nlt0 vv45.2.1) Y23 (o_nlt16 vv45.2.2)) (g := (o_f19 m 144 pp start ending (-1 : Int32) kp fst aft kk [(.long (xsx kk.toNatClampNeg)), (.int (f19 kk.toNatClampNeg)), (.ref pp)])) rfl (by rw [hml]; rfl) rfl (argsL := [(.int (f19 kk.toNatClampNeg)), (.long (xsx kk.toNatClampNeg))]) (rest := []) rfl (lenOf o_pd7 rfl) rfl (hb hby o_d7_144) (o_b rfl) (o_b rfl) (o_b rfl) (o_b rfl)
  obtain ⟨rfl, rfl, e46⟩ := hQ46
  rw [List.append_nil] at X46
  refine o_q T46 (o_f19 m 147 pp start ending (-1 : Int32) kp fst aft kk []) st46 ?_
  refine o_q T46 (o_f19 m 150 pp start ending (-1 : Int32) kp fst aft (kk + (1 : Int32)) []) (fun _ k9 => XS.iinc X46.here hx rfl (hb hby o_d7_147) rfl (l' := (o_t19 pp start ending (-1 : Int32) kp fst aft (kk + (1 : Int32)))) rfl k9) ?_
  refine o_go 110 X46 hx hby o_d7_150 ?_
  have hP47 : o_Pr Z n0 pp rc ru wa tmx frx tlx lax L chx gbx xsx f19 rsx h19 := ⟨Y20, Y21, Y22, Y23, Y24, Y25, Y26, Y27, Y28, Y29, Y30, Y31, Y32, Y33, Y34, Y35, Y36, Y37, Y38, A19, Y40, nt1, wl1, gp1, gt1, gf1, gr1, gu1⟩
  have q49 : ((kk + (1 : Int32))).toInt ≤ 33 := by
   have r1 := rng32 kk
   have k2 : (1 : Int32).toInt = 1 := by decide
   have e3 : ((kk + (1 : Int32))).toInt = kk.toInt + 1 := by
    rw [Jvm.Free.XT.add32 ⟨by rw [show (1 : Int32).toInt = 1 from by decide]; omega, by rw [show (1 : Int32).toInt = 1 from by decide]; omega⟩]; rw [show (1 : Int32).toInt = 1 from by decide]
   have r4 := rng32 aft
   have r5 := rng32 tlx
   have d0 : kk.toInt < aft.toInt := Int32.lt_iff_toInt_lt.mp c0
   omega
  have q50 : 0 ≤ ((kk + (1 : Int32))).toInt := by
   have r1 := rng32 kk
   have k2 : (1 : Int32).toInt = 1 := by decide
   have e3 : ((kk + (1 : Int32))).toInt = kk.toInt + 1 := by
    rw [Jvm.Free.XT.add32 ⟨by rw [show (1 : Int32).toInt = 1 from by decide]; omega, by rw [show (1 : Int32).toInt = 1 from by decide]; omega⟩]; rw [show (1 : Int32).toInt = 1 from by decide]
   have r4 := rng32 aft
   have r5 := rng32 tlx
   have d0 : kk.toInt < aft.toInt := Int32.lt_iff_toInt_lt.mp c0
   omega
  have q51 : aft.toInt - ((kk + (1 : Int32))).toInt + 40 ≤ (k : Int) := by
   have r1 := rng32 kk
   have k2 : (1 : Int32).toInt = 1 := by decide
   have e3 : ((kk + (1 : Int32))).toInt = kk.toInt + 1 := by
    rw [Jvm.Free.XT.add32 ⟨by rw [show (1 : Int32).toInt = 1 from by decide]; omega, by rw [show (1 : Int32).toInt = 1 from by decide]; omega⟩]; rw [show (1 : Int32).toInt = 1 from by decide]
   have r4 := rng32 aft
   have d0 : kk.toInt < aft.toInt := Int32.lt_iff_toInt_lt.mp c0
   omega
  have kz48 : ((kk + (1 : Int32))).toNatClampNeg = kk.toNatClampNeg + 1 := by
   have r1 := rng32 kk
   have k2 : (1 : Int32).toInt = 1 := by decide
   have e3 : ((kk + (1 : Int32))).toInt = kk.toInt + 1 := by
    rw [Jvm.Free.XT.add32 ⟨by rw [show (1 : Int32).toInt = 1 from by decide]; omega, by rw [show (1 : Int32).toInt = 1 from by decide]; omega⟩]; rw [show (1 : Int32).toInt = 1 from by decide]
   have r4 := rng32 aft
   have r5 := rng32 tlx
   have d0 : kk.toInt < aft.toInt := Int32.lt_iff_toInt_lt.mp c0
   have n0 := o_nat (kk) (by omega)
   have n1 := o_nat ((kk + (1 : Int32))) (by omega)
   omega
  obtain ⟨S248, U248⟩ := o_Sstep Dd kn45 Sx Uk vv45.1 (fun i hi => by rw [d_f19]; dsimp only; rw [if_neg hi])
  exact ih (kk + (1 : Int32)) f19 _ _ X46 e46 N_19 hP47 q49 q50 q51 S248 (by rw [kz48]; exact U248)
 ·refine o_cY 153 X0 hx hby o_d7_114 (flt c0).2.1 ?_
  refine o_q T (o_f19 m 154 pp start ending (-1 : Int32) kp fst aft kk [(.ref pp)]) (fun _ k9 => XS.aloadN X0.here hx rfl (hb hby o_d7_153) rfl rfl k9) ?_
  refine o_gF X0 hx hZ e0 hby hown (o_m hw 25 rfl) F1_runs o_d7_154 fun T52 X52 e52 => ?_
  refine o_q T52 (o_f19 m 159 pp start ending (-1 : Int32) kp fst aft kk [(.int fst), (.ref ru)]) (fun _ k9 => XS.iload X52.here hx rfl (hb hby o_d7_157) rfl k9) ?_
  refine o_q T52 (o_f19 m 161 pp start ending (-1 : Int32) kp fst aft kk [(.int aft), (.int fst), (.ref ru)]) (fun _ k9 => XS.iload X52.here hx rfl (hb hby o_d7_159) rfl k9) ?_
  obtain ⟨v53, T53, L53, hQ53, X53, st53⟩ := o_callV X52 hx hZ e52 hown (o_m hw 111 rfl) (o_m hw 112 rfl) (o_m hw 114 rfl) (o_m hw 113 rfl) (by decide) (b := ru) Er1 (o_m hw 115 rfl) (o_m hw 18 rfl) (o_k15_7 l Z a0 hw ru fst aft hh Fn1) (g := (o_f19 m 161 pp start ending (-1 : Int32) kp fst aft kk [(.int aft), (.int fst), (.ref ru)])) rfl (by rw [hml]; rfl) rfl (argsL := [(.int fst), (.int aft)]) (rest := []) rfl (lenOf o_pd5 rfl) rfl (hb hby o_d7_161) (o_b rfl) (o_b rfl) (o_b rfl) (o_b rfl)
  obtain ⟨rfl, rfl, e53⟩ := hQ53
  rw [List.append_nil] at X53
  refine o_q T53 (o_f19 m 164 pp start ending (-1 : Int32) kp fst aft kk []) st53 ?_
  refine o_q T53 (o_f19 m 165 pp start ending (-1 : Int32) kp fst aft kk [(.ref pp)]) (fun _ k9 => XS.aloadN X53.here hx rfl (hb hby o_d7_164) rfl rfl k9) ?_
  refine o_q T53 (o_f19 m 167 pp start ending (-1 : Int32) kp fst aft kk [(.int aft), (.ref pp)]) (fun _ k9 => XS.iload X53.here hx rfl (hb hby o_d7_165) rfl k9) ?_
  have q54 : 1 ≤ tlx.toInt := by
   have r1 := rng32 tlx
   have r2 := rng32 kk
   have r3 := rng32 aft
   have d0 : ¬ (kk.toInt < aft.toInt) := mt Int32.lt_iff_toInt_lt.mpr c0
   omega
  have q55 : tlx.toInt ≤ L.toInt := by
   have r1 := rng32 tlx
   have r2 := rng32 L
   have r3 := rng32 kk
   have r4 := rng32 aft
   have d0 : ¬ (kk.toInt < aft.toInt) := mt Int32.lt_iff_toInt_lt.mpr c0
   omega
  have q56 : L.toInt ≤ 32 := by
   have r1 := rng32 L
   have r2 := rng32 kk
   have r3 := rng32 aft
   have d0 : ¬ (kk.toInt < aft.toInt) := mt Int32.lt_iff_toInt_lt.mpr c0
   omega
  have q57 : 0 ≤ aft.toInt := by
   have r1 := rng32 aft
   have r2 := rng32 kk
   have d0 : ¬ (kk.toInt < aft.toInt) := mt Int32.lt_iff_toInt_lt.mpr c0
   omega
  have hP58 : o_Pr Z n0 pp rc ru wa tmx frx tlx lax L chx gbx xsx fsc rsx hh := ⟨Ep1, Er1, Ew1, F1_cpus, F1_times, F1_free, F1_head, F1_tail, F1_lastAt, F1_runs, F1_firstKnown, F1_watcher, F1_watchedAs, F1_changes, F1_merged, F1_gaveBack, F1_recent, Fn1, At1, Af1, Ar1, nt1, wl1, gp1, gt1, gf1, gr1, gu1⟩
  obtain ⟨v59, T59, L59, hQ59, X59, st59⟩ := o_callP X53 hx hZ e53 hown (o_m hw 116 rfl) (o_m hw 117 rfl) (o_m hw 8 rfl) (o_m hw 118 rfl) (by decide) (a := pp) Ep1 (o_m hw 119 rfl) (o_m hw 9 rfl) (o_merge l Z a0 hw n0 pp rc ru wa tmx frx tlx lax L chx gbx xsx fsc rsx aft hh hP58 q54 q55 q56 q57) (g := (o_f19 m 167 pp start ending (-1 : Int32) kp fst aft kk [(.int aft), (.ref pp)])) rfl (by rw [hml]; rfl) rfl (argsL := [(.int aft)]) (rest := []) rfl (lenOf o_pd3 rfl) rfl (hb hby o_d7_167) (o_b rfl) (o_b rfl) (o_b rfl) (o_b rfl)
  obtain ⟨h59, e59⟩ : ∃ z, T59.heap = z := ⟨_, rfl⟩
  rw [e59] at hQ59
  obtain ⟨tl59, xs59, fs59, rfl, N59, hR59, ma59, mb59, mc59, md59, me59⟩ := hQ59
  have N_59 := Fr.app NL N59
  obtain ⟨Ep60, Er60, Ew60, F60_cpus, F60_times, F60_free, F60_head, F60_tail, F60_lastAt, F60_runs, F60_firstKnown, F60_watcher, F60_watchedAs, F60_changes, F60_merged, F60_gaveBack, F60_recent, Fn60, At60, Af60, Ar60, nt60, wl60, gp60, gt60, gf60, gr60, gu60⟩ := hR59
  refine o_q T59 (o_f19 m 170 pp start ending (-1 : Int32) kp fst aft kk []) st59 ?_
  refine o_q T59 (o_f19 m 171 pp start ending (-1 : Int32) kp fst aft kk [(.ref pp)]) (fun _ k9 => XS.aloadN X59.here hx rfl (hb hby o_d7_170) rfl rfl k9) ?_
  refine o_q T59 (o_f19 m 173 pp start ending (-1 : Int32) kp fst aft kk [(.int fst), (.ref pp)]) (fun _ k9 => XS.iload X59.here hx rfl (hb hby o_d7_171) rfl k9) ?_
  have q75 : 1 ≤ tl59.toInt := by
   have r1 := rng32 tl59
   have r2 := rng32 kk
   have r3 := rng32 aft
   have d0 : ¬ (kk.toInt < aft.toInt) := mt Int32.lt_iff_toInt_lt.mpr c0
   omega
  have q76 : tl59.toInt ≤ L.toInt := by
   have r1 := rng32 tl59
   have r2 := rng32 L
   have r3 := rng32 kk
   have r4 := rng32 aft
   have d0 : ¬ (kk.toInt < aft.toInt) := mt Int32.lt_iff_toInt_lt.mpr c0
   omega
  have q77 : L.toInt ≤ 32 := by
   have r1 := rng32 L
   have r2 := rng32 kk
   have r3 := rng32 aft
   have d0 : ¬ (kk.toInt < aft.toInt) := mt Int32.lt_iff_toInt_lt.mpr c0
   omega
  have q78 : 0 ≤ fst.toInt := by
   have r1 := rng32 fst
   have r2 := rng32 kk
   have r3 := rng32 aft
   have d0 : ¬ (kk.toInt < aft.toInt) := mt Int32.lt_iff_toInt_lt.mpr c0
   omega
  have hP79 : o_Pr Z n0 pp rc ru wa tmx frx tl59 lax L chx gbx xs59 fs59 rsx h59 := ⟨Ep60, Er60, Ew60, F60_cpus, F60_times, F60_free, F60_head, F60_tail, F60_lastAt, F60_runs, F60_firstKnown, F60_watcher, F60_watchedAs, F60_changes, F60_merged, F60_gaveBack, F60_recent, Fn60, At60, Af60, Ar60, nt60, wl60, gp60, gt60, gf60, gr60, gu60⟩
  obtain ⟨v80, T80, L80, hQ80, X80, st80⟩ := o_callP X59 hx hZ e59 hown (o_m hw 116 rfl) (o_m hw 117 rfl) (o_m hw 8 rfl) (o_m hw 118 rfl) (by decide) (a := pp) Ep60 (o_m hw 119 rfl) (o_m hw 9 rfl) (o_merge l Z a0 hw n0 pp rc ru wa tmx frx tl59 lax L chx gbx xs59 fs59 rsx fst h59 hP79 q75 q76 q77 q78) (g := (o_f19 m 173 pp start ending (-1 : Int32) kp fst aft kk [(.int fst), (.ref pp)])) rfl (by rw [hml]; rfl) rfl (argsL := [(.int fst)]) (rest := []) rfl (lenOf o_pd3 rfl) rfl (hb hby o_d7_173) (o_b rfl) (o_b rfl) (o_b rfl) (o_b rfl)
  obtain ⟨h80, e80⟩ : ∃ z, T80.heap = z := ⟨_, rfl⟩
  rw [e80] at hQ80
  obtain ⟨tl80, xs80, fs80, rfl, N80, hR80, ma80, mb80, mc80, md80, me80⟩ := hQ80
  have N_80 := Fr.app N_59 N80
  obtain ⟨Ep81, Er81, Ew81, F81_cpus, F81_times, F81_free, F81_head, F81_tail, F81_lastAt, F81_runs, F81_firstKnown, F81_watcher, F81_watchedAs, F81_changes, F81_merged, F81_gaveBack, F81_recent, Fn81, At81, Af81, Ar81, nt81, wl81, gp81, gt81, gf81, gr81, gu81⟩ := hR80
  refine o_q T80 (o_f19 m 176 pp start ending (-1 : Int32) kp fst aft kk []) st80 ?_
  have hP96 : o_Pr Z n0 pp rc ru wa tmx frx tl80 lax L chx gbx xs80 fs80 rsx h80 := ⟨Ep81, Er81, Ew81, F81_cpus, F81_times, F81_free, F81_head, F81_tail, F81_lastAt, F81_runs, F81_firstKnown, F81_watcher, F81_watchedAs, F81_changes, F81_merged, F81_gaveBack, F81_recent, Fn81, At81, Af81, Ar81, nt81, wl81, gp81, gt81, gf81, gr81, gu81⟩
  have n197 : 1 ≤ tlx.toNatClampNeg := by
   have r1 := rng32 tlx
   have r2 := rng32 kk
   have r3 := rng32 aft
   have d0 : ¬ (kk.toInt < aft.toInt) := mt Int32.lt_iff_toInt_lt.mpr c0
   have n0 := o_nat (tlx) (by omega)
   omega
  have n297 : 1 ≤ tl59.toNatClampNeg := by
   have r1 := rng32 tl59
   have r2 := rng32 kk
   have r3 := rng32 aft
   have d0 : ¬ (kk.toInt < aft.toInt) := mt Int32.lt_iff_toInt_lt.mpr c0
   have n0 := o_nat (tl59) (by omega)
   omega
  have q98 : 1 ≤ tl80.toInt := by
   have r1 := rng32 tl80
   have r2 := rng32 kk
   have r3 := rng32 aft
   have d0 : ¬ (kk.toInt < aft.toInt) := mt Int32.lt_iff_toInt_lt.mpr c0
   omega
  have q99 : tl80.toInt ≤ tlx.toInt := by
   have r1 := rng32 tl80
   have r2 := rng32 tlx
   have r3 := rng32 kk
   have r4 := rng32 aft
   have d0 : ¬ (kk.toInt < aft.toInt) := mt Int32.lt_iff_toInt_lt.mpr c0
   omega
  refine o_retV X80 hx hlk hret (hb hby o_d7_176) ?_ (o_b rfl) (o_b rfl)
  rw [e80]
  exact ⟨tl80, xs80, fs80, rfl, N_80, hP96, q98, q99, (md80.trans md59), (o_Smerge n297 (o_Smerge n197 Sx mc59 me59) mc80 me80)⟩
theorem o_d7_0 : decode o_y12 0 = .ok (.lload_n 1, 1) := by decide +kernel
theorem o_d7_1 : decode o_y12 1 = .ok (.lload_n 3, 1) := by decide +kernel
theorem o_d7_2 : decode o_y12 2 = .ok (.lcmp, 1) := by decide +kernel
theorem o_d7_3 : decode o_y12 3 = .ok (.ifCond .lt 4, 3) := by decide +kernel
theorem o_d7_7 : decode o_y12 7 = .ok (.aload_n 0, 1) := by decide +kernel
theorem o_d7_8 : decode o_y12 8 = .ok (.invokevirtual 225, 3) := by decide +kernel
theorem o_d7_11 : decode o_y12 11 = .ok (.iconst 3, 1) := by decide +kernel
theorem o_d7_12 : decode o_y12 12 = .ok (.aload_n 0, 1) := by decide +kernel
theorem o_d7_13 : decode o_y12 13 = .ok (.dup, 1) := by decide +kernel
theorem o_d7_14 : decode o_y12 14 = .ok (.getfield 156, 3) := by decide +kernel
theorem o_d7_17 : decode o_y12 17 = .ok (.lconst 1, 1) := by decide +kernel
theorem o_d7_18 : decode o_y12 18 = .ok (.ladd, 1) := by decide +kernel
theorem o_d7_19 : decode o_y12 19 = .ok (.dup2_x1, 1) := by decide +kernel
theorem o_d7_20 : decode o_y12 20 = .ok (.putfield 156, 3) := by decide +kernel
theorem o_d7_23 : decode o_y12 23 = .ok (.ldc2_w 166, 3) := by decide +kernel
theorem o_d7_26 : decode o_y12 26 = .ok (.lrem, 1) := by decide +kernel
theorem o_d7_27 : decode o_y12 27 = .ok (.l2i, 1) := by decide +kernel
theorem o_d7_28 : decode o_y12 28 = .ok (.imul, 1) := by decide +kernel
theorem o_d7_29 : decode o_y12 29 = .ok (.istore 6, 2) := by decide +kernel
theorem o_d7_31 : decode o_y12 31 = .ok (.aload_n 0, 1) := by decide +kernel
theorem o_d7_32 : decode o_y12 32 = .ok (.getfield 30, 3) := by decide +kernel
theorem o_d7_35 : decode o_y12 35 = .ok (.iload 6, 2) := by decide +kernel
theorem o_d7_37 : decode o_y12 37 = .ok (.lload_n 1, 1) := by decide +kernel
theorem o_d7_38 : decode o_y12 38 = .ok (.lastore, 1) := by decide +kernel
theorem o_d7_39 : decode o_y12 39 = .ok (.aload_n 0, 1) := by decide +kernel
theorem o_d7_40 : decode o_y12 40 = .ok (.getfield 30, 3) := by decide +kernel
theorem o_d7_43 : decode o_y12 43 = .ok (.iload 6, 2) := by decide +kernel
theorem o_d7_45 : decode o_y12 45 = .ok (.iconst 1, 1) := by decide +kernel
theorem o_d7_46 : decode o_y12 46 = .ok (.iadd, 1) := by decide +kernel
theorem o_d7_47 : decode o_y12 47 = .ok (.lload_n 3, 1) := by decide +kernel
theorem o_d7_48 : decode o_y12 48 = .ok (.lastore, 1) := by decide +kernel
theorem o_d7_49 : decode o_y12 49 = .ok (.aload_n 0, 1) := by decide +kernel
theorem o_d7_50 : decode o_y12 50 = .ok (.getfield 30, 3) := by decide +kernel
theorem o_d7_53 : decode o_y12 53 = .ok (.iload 6, 2) := by decide +kernel
theorem o_d7_55 : decode o_y12 55 = .ok (.iconst 2, 1) := by decide +kernel
theorem o_d7_56 : decode o_y12 56 = .ok (.iadd, 1) := by decide +kernel
theorem o_d7_57 : decode o_y12 57 = .ok (.iload 5, 2) := by decide +kernel
theorem o_d7_59 : decode o_y12 59 = .ok (.ifCond .le 7, 3) := by decide +kernel
theorem o_d7_66 : decode o_y12 66 = .ok (.lconst 0, 1) := by decide +kernel
theorem o_d7_67 : decode o_y12 67 = .ok (.lastore, 1) := by decide +kernel
theorem o_d7_68 : decode o_y12 68 = .ok (.iload 5, 2) := by decide +kernel
theorem o_d7_70 : decode o_y12 70 = .ok (.ifCond .le 11, 3) := by decide +kernel
theorem o_d7_81 : decode o_y12 81 = .ok (.aload_n 0, 1) := by decide +kernel
theorem o_d7_82 : decode o_y12 82 = .ok (.aload_n 0, 1) := by decide +kernel
theorem o_d7_83 : decode o_y12 83 = .ok (.getfield 53, 3) := by decide +kernel
theorem o_d7_86 : decode o_y12 86 = .ok (.iconst 2, 1) := by decide +kernel
theorem o_d7_87 : decode o_y12 87 = .ok (.iadd, 1) := by decide +kernel
theorem o_d7_88 : decode o_y12 88 = .ok (.invokevirtual 241, 3) := by decide +kernel
theorem o_pd1 : parseMethodDescriptor "(I)I" = some ⟨[.int], some .int⟩ := by decide +kernel
theorem o_d7_91 : decode o_y12 91 = .ok (.pop, 1) := by decide +kernel
theorem o_d7_92 : decode o_y12 92 = .ok (.aload_n 0, 1) := by decide +kernel
theorem o_d7_93 : decode o_y12 93 = .ok (.lload_n 1, 1) := by decide +kernel
theorem o_d7_94 : decode o_y12 94 = .ok (.invokevirtual 283, 3) := by decide +kernel
theorem o_d7_97 : decode o_y12 97 = .ok (.istore 7, 2) := by decide +kernel
theorem o_d7_99 : decode o_y12 99 = .ok (.aload_n 0, 1) := by decide +kernel
theorem o_d7_100 : decode o_y12 100 = .ok (.lload_n 3, 1) := by decide +kernel
theorem o_d7_101 : decode o_y12 101 = .ok (.invokevirtual 283, 3) := by decide +kernel
theorem o_d7_104 : decode o_y12 104 = .ok (.istore 8, 2) := by decide +kernel
theorem o_d7_106 : decode o_y12 106 = .ok (.iload 7, 2) := by decide +kernel
theorem o_d7_108 : decode o_y12 108 = .ok (.istore 9, 2) := by decide +kernel
theorem o_pn7 : plainFor (⟨o_n1, "add", "(JJI)V"⟩ : MethodName) = true := plainFor_of_name (by first | (simp [plainName, overriddenIn]; done) | decide +kernel)
set_option maxRecDepth 65536 in
set_option maxHeartbeats 40000000 in
theorem o_addN_m1 (l : Launch) (Z : State) (a0 : Array Value) (hw : ∀ d ∈ tables_1, d.before a0 Z = true) (n0 : Nat) (pp rc ru wa tm fr : Addr) (tl la L : Int32) (ch gb : Int64) (xs : Nat → Int64) (fs : Nat → Int32) (rs : Nat → Int64) (start ending : Int64) (cn : Nat) (lo hi lo1 hi1 : Int) (h0 : Heap) (hP : o_Pr Z n0 pp rc ru wa tm fr tl la L ch gb xs fs rs h0) (i1 : 1 ≤ tl.toInt) (i2 : tl.toInt ≤ L.toInt) (i3 : L.toInt ≤ 32) (i4 : tl.toInt + 2 ≤ L.toInt) (hse : start < ending) (hc : ch.toInt = (cn : Int)) (hc2 : cn ≤ 100) (Dd : o_D lo hi lo1 hi1 (-1)) (Sg : o_S lo hi tl.toNatClampNeg xs fs) (hz : hi ≤ 15 → ¬ start < xs 0) :
  o_C l (⟨o_n1, "add", "(JJI)V"⟩ : MethodName) o_y12 10 none (o_R 5 0 0 100) Z h0 #[(.ref pp), (.long start), (.long ending), (.int (-1 : Int32))] (fun v h Ls => ∃ (tm' fr' : Addr) (tl' la' : Int32) (xs' : Nat → Int64) (fs' : Nat → Int32), v = none ∧ Fr n0 Ls ∧ o_Pr Z n0 pp rc ru wa tm' fr' tl' la' L (ch + (1 : Int64)) gb xs' fs' (o_put rs (cn + 1) start ending (0 : Int64)) h ∧ 1 ≤ tl'.toInt ∧ tl'.toInt ≤ tl.toInt + 2 ∧ xs' 0 = xs 0 ∧ o_S lo1 hi1 tl'.toNatClampNeg xs' fs') := by
 refine o_body o_pn7 ?_
 intro p e s m below meth c s₁ hx hby hml hZ hown hnm hret hlk X0 e0
 refine o_cast (f' := (o_f20 m 0 pp start ending (-1 : Int32) [])) (by first | (simp [entryFrame, mkF, argsToLocals, Value.category, maxLocals]; done) | rfl) ?_
 obtain ⟨Ep1, Er1, Ew1, F1_cpus, F1_times, F1_free, F1_head, F1_tail, F1_lastAt, F1_runs, F1_firstKnown, F1_watcher, F1_watchedAs, F1_changes, F1_merged, F1_gaveBack, F1_recent, Fn1, At1, Af1, Ar1, nt1, wl1, gp1, gt1, gf1, gr1, gu1⟩ := hP
 refine o_q s₁ (o_f20 m 1 pp start ending (-1 : Int32) [(.long start)]) (fun _ k9 => XS.lloadN X0.here hx rfl (hb hby o_d7_0) rfl k9) ?_
 refine o_q s₁ (o_f20 m 2 pp start ending (-1 : Int32) [(.long ending), (.long start)]) (fun _ k9 => XS.lloadN X0.here hx rfl (hb hby o_d7_1) rfl k9) ?_
 refine o_q s₁ (o_f20 m 3 pp start ending (-1 : Int32) [(.int (lcmpW start ending))]) (fun _ k9 => XS.lcmp X0.here hx rfl (hb hby o_d7_2) rfl k9) ?_
 refine o_fY 7 X0 hx hby o_d7_3 ((if0 _ _).trans (tlt ((lw_lt _ _).mpr hse)).1) ?_
 refine o_q s₁ (o_f20 m 8 pp start ending (-1 : Int32) [(.ref pp)]) (fun _ k9 => XS.aloadN X0.here hx rfl (hb hby o_d7_7) rfl rfl k9) ?_
 have hP16 : o_Pr Z n0 pp rc ru wa tm fr tl la L ch gb xs fs rs h0 := ⟨Ep1, Er1, Ew1, F1_cpus, F1_times, F1_free, F1_head, F1_tail, F1_lastAt, F1_runs, F1_firstKnown, F1_watcher, F1_watchedAs, F1_changes, F1_merged, F1_gaveBack, F1_recent, Fn1, At1, Af1, Ar1, nt1, wl1, gp1, gt1, gf1, gr1, gu1⟩
 obtain ⟨v17, T17, L17, hQ17, X17, st17⟩ := o_callP X0 hx hZ e0 hown (o_m hw 61 rfl) (o_m hw 62 rfl) (o_m hw 8 rfl) (o_m hw 63 rfl) (by decide) (a := pp) Ep1 (o_m hw 64 rfl) (o_m hw 9 rfl) (o_counts l Z a0 hw n0 pp rc ru wa tm fr tl la L ch gb xs fs rs  h0 hP16 ) (g := (o_f20 m 8 pp start ending (-1 : Int32) [(.ref pp)])) rfl (by rw [hml]; rfl) rfl (argsL := []) (rest := []) rfl (lenOf o_pd0 rfl) rfl (hb hby o_d7_8) (o_b rfl) (o_b rfl) (o_b rfl) (o_b rfl)
 obtain ⟨h17, e17⟩ : ∃ z, T17.heap = z := ⟨_, rfl⟩
 rw [e17] at hQ17
 obtain ⟨rfl, N17, hR17⟩ := hQ17
 have N_17 := Fr.app (Fr.nil _) N17
 obtain ⟨Ep18, Er18, Ew18, F18_cpus, F18_times, F18_free, F18_head, F18_tail, F18_lastAt, F18_runs, F18_firstKnown, F18_watcher, F18_watchedAs, F18_changes, F18_merged, F18_gaveBack, F18_recent, Fn18, At18, Af18, Ar18, nt18, wl18, gp18, gt18, gf18, gr18, gu18⟩ := hR17
 have ne19 : o_ne pp ru := Ep18.ne Er18 (by decide)
 have ne20 : o_ne pp tm := At18.neExa Ep18 (o_m hw 8 rfl)
 have ne22 : o_ne pp fr := Af18.neExa Ep18 (o_m hw 8 rfl)
 have ne24 : o_ne pp rc := Ar18.neExa Ep18 (o_m hw 8 rfl)
 have ne25 : o_ne ru rc := Ar18.neExa Er18 (o_m hw 17 rfl)
 have ne32 : o_ne fr rc := Af18.ne Ar18 (by intro q; cases q)
 refine o_q T17 (o_f20 m 11 pp start ending (-1 : Int32) []) st17 ?_
 refine o_iC (3 : Int32) X17 hx hby o_d7_11 rfl ?_
 refine o_q T17 (o_f20 m 13 pp start ending (-1 : Int32) [(.ref pp), (.int (3 : Int32))]) (fun _ k9 => XS.aloadN X17.here hx rfl (hb hby o_d7_12) rfl rfl k9) ?_
 refine o_q T17 (o_f20 m 14 pp start ending (-1 : Int32) [(.ref pp), (.ref pp), (.int (3 : Int32))]) (fun _ k9 => XS.dup X17.here hx rfl (hb hby o_d7_13) rfl rfl k9) ?_
 refine o_gF X17 hx hZ e17 hby hown (o_m hw 79 rfl) F18_changes o_d7_14 fun T33 X33 e33 => ?_
 refine o_lC (1 : Int64) X33 hx hby o_d7_17 rfl ?_
 refine o_q T33 (o_f20 m 19 pp start ending (-1 : Int32) [(.long (ch + (1 : Int64))), (.ref pp), (.int (3 : Int32))]) (fun _ k9 => XS.ladd X33.here hx rfl (hb hby o_d7_18) rfl k9) ?_
 refine o_q T33 (o_f20 m 20 pp start ending (-1 : Int32) [(.long (ch + (1 : Int64))), (.ref pp), (.long (ch + (1 : Int64))), (.int (3 : Int32))]) (fun _ k9 => by jvm_step X33.here [X33.here.top, hx, (hb hby o_d7_19), Value.category]; exact k9) ?_
 refine o_pF X33 hx hZ e33 hby (ty := .long) hown (o_m hw 79 rfl) F18_changes Ep18 (Or.inl (o_m hw 80 rfl)) (o_m hw 8 rfl) (by decide) rfl rfl o_d7_20 fun T34 h34 X34 e34 W34 => ?_
 have Fw34 := F18_changes.same W34
 have N_34 := Fr.snoc X34 N_17 gp18
 have Y35 := Ep18.wr W34
 have Y36 := Er18.wr W34
 have Y37 := Ew18.wr W34
 have Y38 := F18_cpus.other W34 (o_sn (Or.inr (o_m hw 41 rfl)) (Or.inl (o_m hw 80 rfl)))
 have Y39 := F18_times.other W34 (o_sn (Or.inl (o_m hw 44 rfl)) (Or.inl (o_m hw 80 rfl)))
 have Y40 := F18_free.other W34 (o_sn (Or.inl (o_m hw 47 rfl)) (Or.inl (o_m hw 80 rfl)))
 have Y41 := F18_head.other W34 (o_sn (Or.inl (o_m hw 95 rfl)) (Or.inl (o_m hw 80 rfl)))
 have Y42 := F18_tail.other W34 (o_sn (Or.inl (o_m hw 49 rfl)) (Or.inl (o_m hw 80 rfl)))
 have Y43 := F18_lastAt.other W34 (o_sn (Or.inl (o_m hw 149 rfl)) (Or.inl (o_m hw 80 rfl)))
 have Y44 := F18_runs.other W34 (o_sn (Or.inr (o_m hw 26 rfl)) (Or.inl (o_m hw 80 rfl)))
 have Y45 := F18_firstKnown.other W34 (o_sn (Or.inl (o_m hw 66 rfl)) (Or.inl (o_m hw 80 rfl)))
 have Y46 := F18_watcher.other W34 (o_sn (Or.inl (o_m hw 39 rfl)) (Or.inl (o_m hw 80 rfl)))
 have Y47 := F18_watchedAs.other W34 (o_sn (Or.inl (o_m hw 68 rfl)) (Or.inl (o_m hw 80 rfl)))
 have Y49 := F18_merged.other W34 (o_sn (Or.inl (o_m hw 177 rfl)) (Or.inl (o_m hw 80 rfl)))
 have Y50 := F18_gaveBack.other W34 (o_sn (Or.inl (o_m hw 179 rfl)) (Or.inl (o_m hw 80 rfl)))
 have Y51 := F18_recent.other W34 (o_sn (Or.inr (o_m hw 35 rfl)) (Or.inl (o_m hw 80 rfl)))
 have Y52 := Fn18.other W34 (Or.inl (Ne.symm ne19))
 have Y53 := At18.other W34 (Ne.symm ne20)
 have Y54 := Af18.other W34 (Ne.symm ne22)
 have Y55 := Ar18.other W34 (Ne.symm ne24)
 refine o_q T34 (o_f20 m 26 pp start ending (-1 : Int32) [(.long (8 : Int64)), (.long (ch + (1 : Int64))), (.int (3 : Int32))]) (fun _ k9 => X34.ldc2Long hx hown (mvT hZ (o_m hw 81 rfl)) (g := (o_f20 m 23 pp start ending (-1 : Int32) [(.long (ch + (1 : Int64))), (.int (3 : Int32))])) rfl (hb hby o_d7_23) _ k9) ?_
 refine o_q T34 (o_f20 m 27 pp start ending (-1 : Int32) [(.long ((ch + (1 : Int64)) - ((ch + (1 : Int64)) / (8 : Int64)) * (8 : Int64))), (.int (3 : Int32))]) (fun _ k9 => XS.lrem X34.here hx rfl (hb hby o_d7_26) rfl (by decide) k9) ?_
 refine o_q T34 (o_f20 m 28 pp start ending (-1 : Int32) [(.int (((ch + (1 : Int64)) - ((ch + (1 : Int64)) / (8 : Int64)) * (8 : Int64))).toInt32), (.int (3 : Int32))]) (fun _ k9 => XS.l2i X34.here hx rfl (hb hby o_d7_27) rfl k9) ?_
 refine o_q T34 (o_f20 m 29 pp start ending (-1 : Int32) [(.int ((3 : Int32) * (((ch + (1 : Int64)) - ((ch + (1 : Int64)) / (8 : Int64)) * (8 : Int64))).toInt32))]) (fun _ k9 => XS.imul X34.here hx rfl (hb hby o_d7_28) rfl k9) ?_
 obtain ⟨kp, h_kp⟩ : ∃ z, z = ((3 : Int32) * (((ch + (1 : Int64)) - ((ch + (1 : Int64)) / (8 : Int64)) * (8 : Int64))).toInt32) := ⟨_, rfl⟩
 rw [← h_kp]
 obtain ⟨q8, hq8⟩ : ∃ z, z = (cn + 1) % 8 := ⟨_, rfl⟩
 have hk8 : q8 < 8 := hq8 ▸ Nat.mod_lt _ (by decide)
 have hkp : kp.toInt = 3 * (q8 : Int) := by rw [h_kp, o_kept ch cn hc hc2, ← hq8]; rfl
 refine o_q T34 (o_f21 m 31 pp start ending (-1 : Int32) kp []) (fun _ k9 => XS.istore X34.here hx rfl (hb hby o_d7_29) rfl (l' := (o_t21 pp start ending (-1 : Int32) kp)) rfl k9) ?_
 refine o_q T34 (o_f21 m 32 pp start ending (-1 : Int32) kp [(.ref pp)]) (fun _ k9 => XS.aloadN X34.here hx rfl (hb hby o_d7_31) rfl rfl k9) ?_
 refine o_gF X34 hx hZ e34 hby hown (o_m hw 34 rfl) Y51 o_d7_32 fun T56 X56 e56 => ?_
 refine o_q T56 (o_f21 m 37 pp start ending (-1 : Int32) kp [(.int kp), (.ref rc)]) (fun _ k9 => XS.iload X56.here hx rfl (hb hby o_d7_35) rfl k9) ?_
 refine o_q T56 (o_f21 m 38 pp start ending (-1 : Int32) kp [(.long start), (.int kp), (.ref rc)]) (fun _ k9 => XS.lloadN X56.here hx rfl (hb hby o_d7_37) rfl k9) ?_
 have hin57 : ¬ (kp < (0 : Int32)) ∧ kp < (24 : Int32) := by
  have r1 := rng32 kp
  have k2 : (24 : Int32).toInt = 24 := by decide
  have k3 : (0 : Int32).toInt = 0 := by decide
  rw [Int32.lt_iff_toInt_lt, Int32.lt_iff_toInt_lt]
  omega
 refine o_tJ X56 hx hZ e56 hby Y55 hin57 o_d7_38 fun T58 h58 X58 e58 W58 A58 => ?_
 obtain ⟨f58, d_f58⟩ : ∃ z : Nat → Int64, z = (fun i => if i = kp.toNatClampNeg then start else rs i) := ⟨_, rfl⟩
 rw [← d_f58] at A58
 have N_58 := Fr.snoc X58 N_34 gr18
 have Y59 := Y35.wr W58
 have Y60 := Y36.wr W58
 have Y61 := Y37.wr W58
 have Y62 := Y38.other W58 (Or.inl ne24)
 have Y63 := Y39.other W58 (Or.inl ne24)
 have Y64 := Y40.other W58 (Or.inl ne24)
 have Y65 := Y41.other W58 (Or.inl ne24)
 have Y66 := Y42.other W58 (Or.inl ne24)
 have Y67 := Y43.other W58 (Or.inl ne24)
 have Y68 := Y44.other W58 (Or.inl ne24)
 have Y69 := Y45.other W58 (Or.inl ne24)
 have Y70 := Y46.other W58 (Or.inl ne24)
 have Y71 := Y47.other W58 (Or.inl ne24)
 have Y72 := Fw34.other W58 (Or.inl ne24)
 have Y73 := Y49.other W58 (Or.inl ne24)
 have Y74 := Y50.other W58 (Or.inl ne24)
 have Y75 := Y51.other W58 (Or.inl ne24)
 have Y76 := Y52.other W58 (Or.inl ne25)
 have Y77 := Y53.other W58 nt18
 have Y78 := Y54.other W58 ne32
 refine o_q T58 (o_f21 m 40 pp start ending (-1 : Int32) kp [(.ref pp)]) (fun _ k9 => XS.aloadN X58.here hx rfl (hb hby o_d7_39) rfl rfl k9) ?_
 refine o_gF X58 hx hZ e58 hby hown (o_m hw 34 rfl) Y75 o_d7_40 fun T80 X80 e80 => ?_
 refine o_q T80 (o_f21 m 45 pp start ending (-1 : Int32) kp [(.int kp), (.ref rc)]) (fun _ k9 => XS.iload X80.here hx rfl (hb hby o_d7_43) rfl k9) ?_
 refine o_iC (1 : Int32) X80 hx hby o_d7_45 rfl ?_
 refine o_q T80 (o_f21 m 47 pp start ending (-1 : Int32) kp [(.int (kp + (1 : Int32))), (.ref rc)]) (fun _ k9 => XS.iadd X80.here hx rfl (hb hby o_d7_46) rfl k9) ?_
 refine o_q T80 (o_f21 m 48 pp start ending (-1 : Int32) kp [(.long ending), (.int (kp + (1 : Int32))), (.ref rc)]) (fun _ k9 => XS.lloadN X80.here hx rfl (hb hby o_d7_47) rfl k9) ?_
 have hin81 : ¬ ((kp + (1 : Int32)) < (0 : Int32)) ∧ (kp + (1 : Int32)) < (24 : Int32) := by
  have r1 := rng32 kp
  have k2 : (1 : Int32).toInt = 1 := by decide
  have e3 : ((kp + (1 : Int32))).toInt = kp.toInt + 1 := by
   rw [Jvm.Free.XT.add32 ⟨by rw [show (1 : Int32).toInt = 1 from by decide]; omega, by rw [show (1 : Int32).toInt = 1 from by decide]; omega⟩]; rw [show (1 : Int32).toInt = 1 from by decide]
  have k4 : (24 : Int32).toInt = 24 := by decide
  have k5 : (0 : Int32).toInt = 0 := by decide
  rw [Int32.lt_iff_toInt_lt, Int32.lt_iff_toInt_lt]
  omega
 refine o_tJ X80 hx hZ e80 hby A58 hin81 o_d7_48 fun T82 h82 X82 e82 W82 A82 => ?_
 obtain ⟨f82, d_f82⟩ : ∃ z : Nat → Int64, z = (fun i => if i = ((kp + (1 : Int32))).toNatClampNeg then ending else f58 i) := ⟨_, rfl⟩
 rw [← d_f82] at A82
 have N_82 := Fr.snoc X82 N_58 gr18
 have Y83 := Y59.wr W82
 have Y84 := Y60.wr W82
 have Y85 := Y61.wr W82
 have Y86 := Y62.other W82 (Or.inl ne24)
 have Y87 := Y63.other W82 (Or.inl ne24)
 have Y88 := Y64.other W82 (Or.inl ne24)
 have Y89 := Y65.other W82 (Or.inl ne24)
 have Y90 := Y66.other W82 (Or.inl ne24)
 have Y91 := Y67.other W82 (Or.inl ne24)
 have Y92 := Y68.other W82 (Or.inl ne24)
 have Y93 := Y69.other W82 (Or.inl ne24)
 have Y94 := Y70.other W82 (Or.inl ne24)
 have Y95 := Y71.other W82 (Or.inl ne24)
 have Y96 := Y72.other W82 (Or.inl ne24)
 have Y97 := Y73.other W82 (Or.inl ne24)
 have Y98 := Y74.other W82 (Or.inl ne24)
 have Y99 := Y75.other W82 (Or.inl ne24)
 have Y100 := Y76.other W82 (Or.inl ne25)
 have Y101 := Y77.other W82 nt18
 have Y102 := Y78.other W82 ne32
 refine o_q T82 (o_f21 m 50 pp start ending (-1 : Int32) kp [(.ref pp)]) (fun _ k9 => XS.aloadN X82.here hx rfl (hb hby o_d7_49) rfl rfl k9) ?_
 refine o_gF X82 hx hZ e82 hby hown (o_m hw 34 rfl) Y99 o_d7_50 fun T104 X104 e104 => ?_
 refine o_q T104 (o_f21 m 55 pp start ending (-1 : Int32) kp [(.int kp), (.ref rc)]) (fun _ k9 => XS.iload X104.here hx rfl (hb hby o_d7_53) rfl k9) ?_
 refine o_iC (2 : Int32) X104 hx hby o_d7_55 rfl ?_
 refine o_q T104 (o_f21 m 57 pp start ending (-1 : Int32) kp [(.int (kp + (2 : Int32))), (.ref rc)]) (fun _ k9 => XS.iadd X104.here hx rfl (hb hby o_d7_56) rfl k9) ?_
 refine o_q T104 (o_f21 m 59 pp start ending (-1 : Int32) kp [(.int (-1 : Int32)), (.int (kp + (2 : Int32))), (.ref rc)]) (fun _ k9 => XS.iload X104.here hx rfl (hb hby o_d7_57) rfl k9) ?_
 refine o_fY 66 X104 hx hby o_d7_59 ((if0 _ _).trans (flt (by decide : ¬ ((0 : Int32) < (-1 : Int32)))).2.2.2) ?_
 refine o_lC (0 : Int64) X104 hx hby o_d7_66 rfl ?_
 have hin105 : ¬ ((kp + (2 : Int32)) < (0 : Int32)) ∧ (kp + (2 : Int32)) < (24 : Int32) := by
  have r1 := rng32 kp
  have k2 : (2 : Int32).toInt = 2 := by decide
  have e3 : ((kp + (2 : Int32))).toInt = kp.toInt + 2 := by
   rw [Jvm.Free.XT.add32 ⟨by rw [show (2 : Int32).toInt = 2 from by decide]; omega, by rw [show (2 : Int32).toInt = 2 from by decide]; omega⟩]; rw [show (2 : Int32).toInt = 2 from by decide]
  have k4 : (24 : Int32).toInt = 24 := by decide
  have k5 : (0 : Int32).toInt = 0 := by decide
  rw [Int32.lt_iff_toInt_lt, Int32.lt_iff_toInt_lt]
  omega
 refine o_tJ X104 hx hZ e104 hby A82 hin105 o_d7_67 fun T106 h106 X106 e106 W106 A106 => ?_
 obtain ⟨f106, d_f106⟩ : ∃ z : Nat → Int64, z = (fun i => if i = ((kp + (2 : Int32))).toNatClampNeg then (0 : Int64) else f82 i) := ⟨_, rfl⟩
 rw [← d_f106] at A106
 have N_106 := Fr.snoc X106 N_82 gr18
 have Y107 := Y83.wr W106
 have Y108 := Y84.wr W106
 have Y109 := Y85.wr W106
 have Y110 := Y86.other W106 (Or.inl ne24)
 have Y111 := Y87.other W106 (Or.inl ne24)
 have Y112 := Y88.other W106 (Or.inl ne24)
 have Y113 := Y89.other W106 (Or.inl ne24)
 have Y114 := Y90.other W106 (Or.inl ne24)
 have Y115 := Y91.other W106 (Or.inl ne24)
 have Y116 := Y92.other W106 (Or.inl ne24)
 have Y117 := Y93.other W106 (Or.inl ne24)
 have Y118 := Y94.other W106 (Or.inl ne24)
 have Y119 := Y95.other W106 (Or.inl ne24)
 have Y120 := Y96.other W106 (Or.inl ne24)
 have Y121 := Y97.other W106 (Or.inl ne24)
 have Y122 := Y98.other W106 (Or.inl ne24)
 have Y123 := Y99.other W106 (Or.inl ne24)
 have Y124 := Y100.other W106 (Or.inl ne25)
 have Y125 := Y101.other W106 nt18
 have Y126 := Y102.other W106 ne32
 have ja : kp.toNatClampNeg = 3 * q8 := by
  have r1 := rng32 kp
  have n0 := o_nat (kp) (by omega)
  omega
 have jb : ((kp + (1 : Int32))).toNatClampNeg = 3 * q8 + 1 := by
  have r1 := rng32 kp
  have k2 : (1 : Int32).toInt = 1 := by decide
  have e3 : ((kp + (1 : Int32))).toInt = kp.toInt + 1 := by
   rw [Jvm.Free.XT.add32 ⟨by rw [show (1 : Int32).toInt = 1 from by decide]; omega, by rw [show (1 : Int32).toInt = 1 from by decide]; omega⟩]; rw [show (1 : Int32).toInt = 1 from by decide]
  have n0 := o_nat ((kp + (1 : Int32))) (by omega)
  omega
 have jc : ((kp + (2 : Int32))).toNatClampNeg = 3 * q8 + 2 := by
  have r1 := rng32 kp
  have k2 : (2 : Int32).toInt = 2 := by decide
  have e3 : ((kp + (2 : Int32))).toInt = kp.toInt + 2 := by
   rw [Jvm.Free.XT.add32 ⟨by rw [show (2 : Int32).toInt = 2 from by decide]; omega, by rw [show (2 : Int32).toInt = 2 from by decide]; omega⟩]; rw [show (2 : Int32).toInt = 2 from by decide]
  have n0 := o_nat ((kp + (2 : Int32))) (by omega)
  omega
 have RC : o_LA Z h106 rc (24 : Int32) (o_put rs (cn + 1) start ending (0 : Int64)) := A106.congr fun i _ => by
  rw [d_f106, d_f82, d_f58]
  dsimp only [o_put]
  rw [ja, jb, jc, hq8]
 refine o_q T106 (o_f21 m 70 pp start ending (-1 : Int32) kp [(.int (-1 : Int32))]) (fun _ k9 => XS.iload X106.here hx rfl (hb hby o_d7_68) rfl k9) ?_
 refine o_fY 81 X106 hx hby o_d7_70 ((if0 _ _).trans (flt (by decide : ¬ ((0 : Int32) < (-1 : Int32)))).2.2.2) ?_
 refine o_q T106 (o_f21 m 82 pp start ending (-1 : Int32) kp [(.ref pp)]) (fun _ k9 => XS.aloadN X106.here hx rfl (hb hby o_d7_81) rfl rfl k9) ?_
 refine o_q T106 (o_f21 m 83 pp start ending (-1 : Int32) kp [(.ref pp), (.ref pp)]) (fun _ k9 => XS.aloadN X106.here hx rfl (hb hby o_d7_82) rfl rfl k9) ?_
 refine o_gF X106 hx hZ e106 hby hown (o_m hw 48 rfl) Y114 o_d7_83 fun T128 X128 e128 => ?_
 refine o_iC (2 : Int32) X128 hx hby o_d7_86 rfl ?_
 refine o_q T128 (o_f21 m 88 pp start ending (-1 : Int32) kp [(.int (tl + (2 : Int32))), (.ref pp)]) (fun _ k9 => XS.iadd X128.here hx rfl (hb hby o_d7_87) rfl k9) ?_
 have hP129 : o_Pr Z n0 pp rc ru wa tm fr tl la L (ch + (1 : Int64)) gb xs fs (o_put rs (cn + 1) start ending (0 : Int64)) h106 := ⟨Y107, Y108, Y109, Y110, Y111, Y112, Y113, Y114, Y115, Y116, Y117, Y118, Y119, Y120, Y121, Y122, Y123, Y124, Y125, Y126, RC, nt18, wl18, gp18, gt18, gf18, gr18, gu18⟩
 have q130 : ((tl + (2 : Int32))).toInt ≤ L.toInt := by
  have r1 := rng32 tl
  have k2 : (2 : Int32).toInt = 2 := by decide
  have e3 : ((tl + (2 : Int32))).toInt = tl.toInt + 2 := by
   rw [Jvm.Free.XT.add32 ⟨by rw [show (2 : Int32).toInt = 2 from by decide]; omega, by rw [show (2 : Int32).toInt = 2 from by decide]; omega⟩]; rw [show (2 : Int32).toInt = 2 from by decide]
  have r4 := rng32 L
  omega
 obtain ⟨v131, T131, L131, hQ131, X131, st131⟩ := o_callP X128 hx hZ e128 hown (o_m hw 82 rfl) (o_m hw 83 rfl) (o_m hw 8 rfl) (o_m hw 84 rfl) (by decide) (a := pp) Y107 (o_m hw 85 rfl) (o_m hw 9 rfl) (o_room0 l Z a0 hw n0 pp rc ru wa tm fr tl la L (ch + (1 : Int64)) gb xs fs (o_put rs (cn + 1) start ending (0 : Int64)) (tl + (2 : Int32)) h106 hP129 q130) (g := (o_f21 m 88 pp start ending (-1 : Int32) kp [(.int (tl + (2 : Int32))), (.ref pp)])) rfl (by rw [hml]; rfl) rfl (argsL := [(.int (tl + (2 : Int32)))]) (rest := []) rfl (lenOf o_pd1 rfl) rfl (hb hby o_d7_88) (o_b rfl) (o_b rfl) (o_b rfl) (o_b rfl)
 obtain ⟨rfl, rfl, e131⟩ := hQ131
 rw [List.append_nil] at X131
 refine o_q T131 (o_f21 m 91 pp start ending (-1 : Int32) kp [(.int (0 : Int32))]) st131 ?_
 refine o_q T131 (o_f21 m 92 pp start ending (-1 : Int32) kp []) (fun _ k9 => XS.pop X131.here hx rfl (hb hby o_d7_91) rfl rfl k9) ?_
 refine o_q T131 (o_f21 m 93 pp start ending (-1 : Int32) kp [(.ref pp)]) (fun _ k9 => XS.aloadN X131.here hx rfl (hb hby o_d7_92) rfl rfl k9) ?_
 refine o_q T131 (o_f21 m 94 pp start ending (-1 : Int32) kp [(.long start), (.ref pp)]) (fun _ k9 => XS.lloadN X131.here hx rfl (hb hby o_d7_93) rfl k9) ?_
 have q132 : 1 ≤ tl.toInt := by
  have r1 := rng32 tl
  omega
 have q133 : tl.toInt ≤ L.toInt := by
  have r1 := rng32 tl
  have r2 := rng32 L
  omega
 have q134 : L.toInt ≤ 32 := by
  have r1 := rng32 L
  omega
 have q135 : tl.toInt + 1 ≤ L.toInt := by
  have r1 := rng32 tl
  have r2 := rng32 L
  omega
 have hP136 : o_Pr Z n0 pp rc ru wa tm fr tl la L (ch + (1 : Int64)) gb xs fs (o_put rs (cn + 1) start ending (0 : Int64)) h106 := ⟨Y107, Y108, Y109, Y110, Y111, Y112, Y113, Y114, Y115, Y116, Y117, Y118, Y119, Y120, Y121, Y122, Y123, Y124, Y125, Y126, RC, nt18, wl18, gp18, gt18, gf18, gr18, gu18⟩
 obtain ⟨v137, T137, L137, hQ137, X137, st137⟩ := o_callP X131 hx hZ e131 hown (o_m hw 86 rfl) (o_m hw 87 rfl) (o_m hw 8 rfl) (o_m hw 88 rfl) (by decide) (a := pp) Y107 (o_m hw 89 rfl) (o_m hw 9 rfl) (o_split l Z a0 hw n0 pp rc ru wa tm fr tl la L (ch + (1 : Int64)) gb xs fs (o_put rs (cn + 1) start ending (0 : Int64)) start h106 hP136 q132 q133 q134 q135) (g := (o_f21 m 94 pp start ending (-1 : Int32) kp [(.long start), (.ref pp)])) rfl (by rw [hml]; rfl) rfl (argsL := [(.long start)]) (rest := []) rfl (lenOf o_pd8 rfl) rfl (hb hby o_d7_94) (o_b rfl) (o_b rfl) (o_b rfl) (o_b rfl)
 obtain ⟨h137, e137⟩ : ∃ z, T137.heap = z := ⟨_, rfl⟩
 rw [e137] at hQ137
 obtain ⟨r137, tl137, la137, xs137, fs137, rfl, N137, hR137, pa137, pb137, pc137, pd137, pe137, pf137, pg137, ph137⟩ := hQ137
 have N_137 := Fr.app N_106 N137
 obtain ⟨Ep138, Er138, Ew138, F138_cpus, F138_times, F138_free, F138_head, F138_tail, F138_lastAt, F138_runs, F138_firstKnown, F138_watcher, F138_watchedAs, F138_changes, F138_merged, F138_gaveBack, F138_recent, Fn138, At138, Af138, Ar138, nt138, wl138, gp138, gt138, gf138, gr138, gu138⟩ := hR137
 refine o_q T137 (o_f21 m 97 pp start ending (-1 : Int32) kp [(.int r137)]) st137 ?_
 refine o_q T137 (o_f22 m 99 pp start ending (-1 : Int32) kp r137 []) (fun _ k9 => XS.istore X137.here hx rfl (hb hby o_d7_97) rfl (l' := (o_t22 pp start ending (-1 : Int32) kp r137)) rfl k9) ?_
 refine o_q T137 (o_f22 m 100 pp start ending (-1 : Int32) kp r137 [(.ref pp)]) (fun _ k9 => XS.aloadN X137.here hx rfl (hb hby o_d7_99) rfl rfl k9) ?_
 refine o_q T137 (o_f22 m 101 pp start ending (-1 : Int32) kp r137 [(.long ending), (.ref pp)]) (fun _ k9 => XS.lloadN X137.here hx rfl (hb hby o_d7_100) rfl k9) ?_
 have q153 : 1 ≤ tl137.toInt := by
  have r1 := rng32 tl137
  omega
 have q154 : tl137.toInt ≤ L.toInt := by
  have r1 := rng32 tl137
  have r2 := rng32 L
  omega
 have q155 : L.toInt ≤ 32 := by
  have r1 := rng32 L
  omega
 have q156 : tl137.toInt + 1 ≤ L.toInt := by
  have r1 := rng32 tl137
  have r2 := rng32 L
  omega
 have hP157 : o_Pr Z n0 pp rc ru wa tm fr tl137 la137 L (ch + (1 : Int64)) gb xs137 fs137 (o_put rs (cn + 1) start ending (0 : Int64)) h137 := ⟨Ep138, Er138, Ew138, F138_cpus, F138_times, F138_free, F138_head, F138_tail, F138_lastAt, F138_runs, F138_firstKnown, F138_watcher, F138_watchedAs, F138_changes, F138_merged, F138_gaveBack, F138_recent, Fn138, At138, Af138, Ar138, nt138, wl138, gp138, gt138, gf138, gr138, gu138⟩
 obtain ⟨v158, T158, L158, hQ158, X158, st158⟩ := o_callP X137 hx hZ e137 hown (o_m hw 86 rfl) (o_m hw 87 rfl) (o_m hw 8 rfl) (o_m hw 88 rfl) (by decide) (a := pp) Ep138 (o_m hw 89 rfl) (o_m hw 9 rfl) (o_split l Z a0 hw n0 pp rc ru wa tm fr tl137 la137 L (ch + (1 : Int64)) gb xs137 fs137 (o_put rs (cn + 1) start ending (0 : Int64)) ending h137 hP157 q153 q154 q155 q156) (g := (o_f22 m 101 pp start ending (-1 : Int32) kp r137 [(.long ending), (.ref pp)])) rfl (by rw [hml]; rfl) rfl (argsL := [(.long ending)]) (rest := []) rfl (lenOf o_pd8 rfl) rfl (hb hby o_d7_101) (o_b rfl) (o_b rfl) (o_b rfl) (o_b rfl)
 obtain ⟨h158, e158⟩ : ∃ z, T158.heap = z := ⟨_, rfl⟩
 rw [e158] at hQ158
 obtain ⟨r158, tl158, la158, xs158, fs158, rfl, N158, hR158, pa158, pb158, pc158, pd158, pe158, pf158, pg158, ph158⟩ := hQ158
 have N_158 := Fr.app N_137 N158
 obtain ⟨Ep159, Er159, Ew159, F159_cpus, F159_times, F159_free, F159_head, F159_tail, F159_lastAt, F159_runs, F159_firstKnown, F159_watcher, F159_watchedAs, F159_changes, F159_merged, F159_gaveBack, F159_recent, Fn159, At159, Af159, Ar159, nt159, wl159, gp159, gt159, gf159, gr159, gu159⟩ := hR158
 refine o_q T158 (o_f22 m 104 pp start ending (-1 : Int32) kp r137 [(.int r158)]) st158 ?_
 refine o_q T158 (o_f23 m 106 pp start ending (-1 : Int32) kp r137 r158 []) (fun _ k9 => XS.istore X158.here hx rfl (hb hby o_d7_104) rfl (l' := (o_t23 pp start ending (-1 : Int32) kp r137 r158)) rfl k9) ?_
 refine o_q T158 (o_f23 m 108 pp start ending (-1 : Int32) kp r137 r158 [(.int r137)]) (fun _ k9 => XS.iload X158.here hx rfl (hb hby o_d7_106) rfl k9) ?_
 refine o_q T158 (o_f19 m 110 pp start ending (-1 : Int32) kp r137 r158 r137 []) (fun _ k9 => XS.istore X158.here hx rfl (hb hby o_d7_108) rfl (l' := (o_t19 pp start ending (-1 : Int32) kp r137 r158 r137)) rfl k9) ?_
 have hP174 : o_Pr Z n0 pp rc ru wa tm fr tl158 la158 L (ch + (1 : Int64)) gb xs158 fs158 (o_put rs (cn + 1) start ending (0 : Int64)) h158 := ⟨Ep159, Er159, Ew159, F159_cpus, F159_times, F159_free, F159_head, F159_tail, F159_lastAt, F159_runs, F159_firstKnown, F159_watcher, F159_watchedAs, F159_changes, F159_merged, F159_gaveBack, F159_recent, Fn159, At159, Af159, Ar159, nt159, wl159, gp159, gt159, gf159, gr159, gu159⟩
 have n0175 : 1 ≤ tl.toNatClampNeg := by
  have r1 := rng32 tl
  have n0 := o_nat (tl) (by omega)
  omega
 have n1175 : 1 ≤ tl137.toNatClampNeg := by
  have r1 := rng32 tl137
  have n0 := o_nat (tl137) (by omega)
  omega
 have S0175 : o_S lo hi tl.toNatClampNeg xs fs := Sg
 have x0175 : xs 0 = xs 0 := rfl
 have S1175 := o_Ssplit n0175 S0175 (fun q => by rw [x0175]; exact hz q) pe137 pg137
 have S2175 := o_Ssplit n1175 S1175 (fun q => by rw [pf137, x0175]; exact o_lt3 (hz q) hse) pe158 pg158
 obtain ⟨S3175, U3175⟩ := o_Sinit Dd S2175
 have q176 : 1 ≤ tl158.toInt := by
  have r1 := rng32 tl158
  omega
 have q177 : tl158.toInt ≤ L.toInt := by
  have r1 := rng32 tl158
  have r2 := rng32 L
  omega
 have q178 : L.toInt ≤ 32 := by
  have r1 := rng32 L
  omega
 have q179 : r158.toInt < tl158.toInt := by
  have r1 := rng32 r158
  have r2 := rng32 tl158
  omega
 have q180 : 0 ≤ r158.toInt := by
  have r1 := rng32 r158
  omega
 have q181 : 0 ≤ r137.toInt := by
  have r1 := rng32 r137
  omega
 have q182 : r137.toInt ≤ 33 := by
  have r1 := rng32 r137
  have r2 := rng32 tl137
  have r3 := rng32 tl158
  omega
 have q183 : 0 ≤ r137.toInt := by
  have r1 := rng32 r137
  omega
 have q184 : r158.toInt - r137.toInt + 40 ≤ (100 : Nat) := by
  have r1 := rng32 r158
  have r2 := rng32 r137
  have r3 := rng32 tl158
  omega
 have GL := o_addN_m1_loop Z a0 hw n0 pp rc ru wa tm fr tl158 la158 L (ch + (1 : Int64)) gb xs158 (o_put rs (cn + 1) start ending (0 : Int64)) kp r137 r158 start ending lo hi lo1 hi1 q176 q177 q178 q179 q180 q181 Dd hx hby hml hZ hown hret hlk 100 r137 fs158 _ _ X158 e158 N_158 hP174 q182 q183 q184 S3175 (fun j _ h => U3175 j h)
 have q185 : tl158.toInt ≤ tl.toInt + 2 := by
  have r1 := rng32 tl137
  have r2 := rng32 tl158
  have r3 := rng32 tl
  omega
 exact o_mono (fun v h Ls ⟨tl', xs', fs', a1, a2, a3, a4, a5, a6, a7⟩ => ⟨tm, fr, tl', la158, xs', fs', a1, a2, a3, a4, Int.le_trans a5 q185, by rw [a6, pf158, pf137, x0175], a7⟩) GL
set_option maxRecDepth 65536 in
set_option maxHeartbeats 40000000 in
theorem o_addG_m1_loop {p : Program} {l : Launch} {e : Env} {s : State} {m : MethodId} {below : List Frame} {meth : Method} {c : Code} (Z : State) (a0 : Array Value) (hw : ∀ d ∈ tables_1, d.before a0 Z = true) (n0 : Nat) (pp rc ru wa tmx frx : Addr) (tlx lax L2 : Int32) (chx gbx : Int64) (xsx : Nat → Int64) (rsx : Nat → Int64) (kp fst aft : Int32) (start ending : Int64) (lo hi lo1 hi1 : Int) (i1 : 1 ≤ tlx.toInt) (i2 : tlx.toInt ≤ L2.toInt) (i3 : L2.toInt ≤ 32) (f1 : aft.toInt < tlx.toInt) (f2 : 0 ≤ aft.toInt) (f3 : 0 ≤ fst.toInt) (Dd : o_D lo hi lo1 hi1 (-1))
  (hx : p.tables.exec = Jvm.exec) (hby : c.code = o_y12) (hml : c.maxLocals = 10) (hZ : Z.Warmed39 s.vm) (hown : s.vm.findClass o_n1 = some m.cls) (hret : meth.sig.returnType = none) (hlk : meth.locks = false) :
  ∀ (k : Nat) (kk : Int32) (fsc : Nat → Int32) (locs : List Loc) (hh : Heap) {T : State} (X0 : Stand p l e (o_R 5 2 64 100) s m #[(.ref pp), (.long start), (.long ending), (.int (-1 : Int32))] below meth c T locs 2 64) (e0 : T.heap = hh), Fr n0 locs → o_Pr Z n0 pp rc ru wa tmx frx tlx lax L2 chx gbx xsx fsc rsx hh → kk.toInt ≤ 33 → 0 ≤ kk.toInt → aft.toInt - kk.toInt + 40 ≤ (k : Int) → o_S lo1 hi1 tlx.toNatClampNeg xsx fsc → (∀ j, kk.toNatClampNeg ≤ j → j + 1 < tlx.toNatClampNeg → lo ≤ (fsc j).toInt ∧ (fsc j).toInt ≤ hi) → o_G p e below s (fun v h Ls => ∃ (tl' : Int32) (xs' : Nat → Int64) (fs' : Nat → Int32), v = none ∧ Fr n0 Ls ∧ o_Pr Z n0 pp rc ru wa tmx frx tl' lax L2 chx gbx xs' fs' rsx h ∧ 1 ≤ tl'.toInt ∧ tl'.toInt ≤ tlx.toInt ∧ xs' 0 = xsx 0 ∧ o_S lo1 hi1 tl'.toNatClampNeg xs' fs') 2 64 T (o_f19 m 110 pp start ending (-1 : Int32) kp fst aft kk []) := by
 intro k
 induction k with
 | zero => intro kk fsc locs hh T X0 e0 NL hP g1 g0 g2 Sx Uk; exfalso; omega
 | succ k ih =>
 intro kk fsc locs hh T X0 e0 NL hP g1 g0 g2 Sx Uk
 obtain ⟨Ep1, Er1, Ew1, F1_cpus, F1_times, F1_free, F1_head, F1_tail, F1_lastAt, F1_runs, F1_firstKnown, F1_watcher, F1_watchedAs, F1_changes, F1_merged, F1_gaveBack, F1_recent, Fn1, At1, Af1, Ar1, nt1, wl1, gp1, gt1, gf1, gr1, gu1⟩ := hP
 have ne5 : o_ne pp frx := Af1.neExa Ep1 (o_m hw 8 rfl)
 have ne6 : o_ne ru frx := Af1.neExa Er1 (o_m hw 17 rfl)
 have ne14 : o_ne tmx frx := At1.ne Af1 (by intro q; cases q)
 have ne15 : o_ne frx rc := Af1.ne Ar1 (by intro q; cases q)
 refine o_q T (o_f19 m 112 pp start ending (-1 : Int32) kp fst aft kk [(.int kk)]) (fun _ k9 => XS.iload X0.here hx rfl (hb hby o_d7_110) rfl k9) ?_
 refine o_q T (o_f19 m 114 pp start ending (-1 : Int32) kp fst aft kk [(.int aft), (.int kk)]) (fun _ k9 => XS.iload X0.here hx rfl (hb hby o_d7_112) rfl k9) ?_
 by_cases c0 : kk < aft
 ·refine o_cN X0 hx hby o_d7_114 (tlt c0).2.1 ?_
  refine o_q T (o_f19 m 118 pp start ending (-1 : Int32) kp fst aft kk [(.ref pp)]) (fun _ k9 => XS.aloadN X0.here hx rfl (hb hby o_d7_117) rfl rfl k9) ?_
  refine o_gF X0 hx hZ e0 hby hown (o_m hw 46 rfl) F1_free o_d7_118 fun T16 X16 e16 => ?_
  refine o_q T16 (o_f19 m 123 pp start ending (-1 : Int32) kp fst aft kk [(.int kk), (.ref frx)]) (fun _ k9 => XS.iload X16.here hx rfl (hb hby o_d7_121) rfl k9) ?_
  refine o_q T16 (o_f19 m 124 pp start ending (-1 : Int32) kp fst aft kk [(.int kk), (.ref frx), (.int kk), (.ref frx)]) (fun _ k9 => Jvm.Free.XT.dup2 X16.here hx rfl (hb hby o_d7_123) rfl rfl rfl k9) ?_
  have hin17 : ¬ (kk < (0 : Int32)) ∧ kk < L2 := by
   have r1 := rng32 kk
   have r2 := rng32 L2
   have k3 : (0 : Int32).toInt = 0 := by decide
   have r4 := rng32 aft
   have d0 : kk.toInt < aft.toInt := Int32.lt_iff_toInt_lt.mp c0
   rw [Int32.lt_iff_toInt_lt, Int32.lt_iff_toInt_lt]
   omega
  refine o_dI X16 hx hZ e16 hby Af1 hin17 o_d7_124 ?_
  refine o_q T16 (o_f19 m 127 pp start ending (-1 : Int32) kp fst aft kk [(.int (-1 : Int32)), (.int (fsc kk.toNatClampNeg)), (.int kk), (.ref frx)]) (fun _ k9 => XS.iload X16.here hx rfl (hb hby o_d7_125) rfl k9) ?_
  refine o_q T16 (o_f19 m 128 pp start ending (-1 : Int32) kp fst aft kk [(.int ((fsc kk.toNatClampNeg) + (-1 : Int32))), (.int kk), (.ref frx)]) (fun _ k9 => XS.iadd X16.here hx rfl (hb hby o_d7_127) rfl k9) ?_
  have hin18 : ¬ (kk < (0 : Int32)) ∧ kk < L2 := by
   have r1 := rng32 kk
   have r2 := rng32 L2
   have k3 : (0 : Int32).toInt = 0 := by decide
   have r4 := rng32 aft
   have d0 : kk.toInt < aft.toInt := Int32.lt_iff_toInt_lt.mp c0
   rw [Int32.lt_iff_toInt_lt, Int32.lt_iff_toInt_lt]
   omega
  refine o_tI X16 hx hZ e16 hby Af1 hin18 o_d7_128 fun T19 h19 X19 e19 W19 A19 => ?_
  obtain ⟨f19, d_f19⟩ : ∃ z : Nat → Int32, z = (fun i => if i = kk.toNatClampNeg then ((fsc kk.toNatClampNeg) + (-1 : Int32)) else fsc i) := ⟨_, rfl⟩
  rw [← d_f19] at A19
  have N_19 := Fr.snoc X19 NL gf1
  have Y20 := Ep1.wr W19
  have Y21 := Er1.wr W19
  have Y22 := Ew1.wr W19
  have Y23 := F1_cpus.other W19 (Or.inl ne5)
  have Y24 := F1_times.other W19 (Or.inl ne5)
  have Y25 := F1_free.other W19 (Or.inl ne5)
  have Y26 := F1_head.other W19 (Or.inl ne5)
  have Y27 := F1_tail.other W19 (Or.inl ne5)
  have Y28 := F1_lastAt.other W19 (Or.inl ne5)
  have Y29 := F1_runs.other W19 (Or.inl ne5)
  have Y30 := F1_firstKnown.other W19 (Or.inl ne5)
  have Y31 := F1_watcher.other W19 (Or.inl ne5)
  have Y32 := F1_watchedAs.other W19 (Or.inl ne5)
  have Y33 := F1_changes.other W19 (Or.inl ne5)
  have Y34 := F1_merged.other W19 (Or.inl ne5)
  have Y35 := F1_gaveBack.other W19 (Or.inl ne5)
  have Y36 := F1_recent.other W19 (Or.inl ne5)
  have Y37 := Fn1.other W19 (Or.inl ne6)
  have Y38 := At1.other W19 ne14
  have Y40 := Ar1.other W19 (Ne.symm ne15)
  refine o_q T19 (o_f19 m 130 pp start ending (-1 : Int32) kp fst aft kk [(.ref pp)]) (fun _ k9 => XS.aloadN X19.here hx rfl (hb hby o_d7_129) rfl rfl k9) ?_
  refine o_q T19 (o_f19 m 131 pp start ending (-1 : Int32) kp fst aft kk [(.ref pp), (.ref pp)]) (fun _ k9 => XS.aloadN X19.here hx rfl (hb hby o_d7_130) rfl rfl k9) ?_
  refine o_gF X19 hx hZ e19 hby hown (o_m hw 46 rfl) Y25 o_d7_131 fun T41 X41 e41 => ?_
  refine o_q T41 (o_f19 m 136 pp start ending (-1 : Int32) kp fst aft kk [(.int kk), (.ref frx), (.ref pp)]) (fun _ k9 => XS.iload X41.here hx rfl (hb hby o_d7_134) rfl k9) ?_
  have hin42 : ¬ (kk < (0 : Int32)) ∧ kk < L2 := by
   have r1 := rng32 kk
   have r2 := rng32 L2
   have k3 : (0 : Int32).toInt = 0 := by decide
   have r4 := rng32 aft
   have d0 : kk.toInt < aft.toInt := Int32.lt_iff_toInt_lt.mp c0
   rw [Int32.lt_iff_toInt_lt, Int32.lt_iff_toInt_lt]
   omega
  refine o_dI X41 hx hZ e41 hby A19 hin42 o_d7_136 ?_
  refine o_q T41 (o_f19 m 138 pp start ending (-1 : Int32) kp fst aft kk [(.ref pp), (.int (f19 kk.toNatClampNeg)), (.ref pp)]) (fun _ k9 => XS.aloadN X41.here hx rfl (hb hby o_d7_137) rfl rfl k9) ?_
  refine o_gF X41 hx hZ e41 hby hown (o_m hw 43 rfl) Y24 o_d7_138 fun T43 X43 e43 => ?_
  refine o_q T43 (o_f19 m 143 pp start ending (-1 : Int32) kp fst aft kk [(.int kk), (.ref tmx), (.int (f19 kk.toNatClampNeg)), (.ref pp)]) (fun _ k9 => XS.iload X43.here hx rfl (hb hby o_d7_141) rfl k9) ?_
  have hin44 : ¬ (kk < (0 : Int32)) ∧ kk < L2 := by
   have r1 := rng32 kk
   have r2 := rng32 L2
   have k3 : (0 : Int32).toInt = 0 := by decide
   have r4 := rng32 aft
   have d0 : kk.toInt < aft.toInt := Int32.lt_iff_toInt_lt.mp c0
   rw [Int32.lt_iff_toInt_lt, Int32.lt_iff_toInt_lt]
   omega
  refine o_dJ X43 hx hZ e43 hby Y38 hin44 o_d7_143 ?_
  have ev45 : (f19 kk.toNatClampNeg) = fsc kk.toNatClampNeg + (-1 : Int32) := by rw [d_f19]; dsimp only; rw [if_pos rfl]
  have kn45 : kk.toNatClampNeg + 1 < tlx.toNatClampNeg := by
   have r1 := rng32 kk
   have r2 := rng32 aft
   have r3 := rng32 tlx
   have d0 : kk.toInt < aft.toInt := Int32.lt_iff_toInt_lt.mp c0
   have n0 := o_nat (kk) (by omega)
   have n1 := o_nat (tlx) (by omega)
   omega
  have bb45 := Uk _ (Nat.le_refl _) kn45
  have Dq45 := Dd
  obtain ⟨-, -, -, -, q5, q6, -, -⟩ := Dq45
  have vv45 := o_vv_m1 _ _ lo hi bb45 q5 q6 ev45
  obtain ⟨v46, T46, L46, hQ46, X46, st46⟩ := o_callP X43 hx hZ e43 hown (o_m hw 107 rfl) (o_m hw 108 rfl) (o_m hw 8 rfl) (o_m hw 109 rfl) (by decide) (a := pp) Y20 (o_m hw 110 rfl) (o_m hw 9 rfl) (o_k14_6 l Z a0 hw pp (f19 kk.toNatClampNeg) (xsx kk.toNatClampNeg) h19 (o_nlt0 vv45.2.1) Y23 (o_nlt16 vv45.2.2)) (g := (o_f19 m 144 pp start ending (-1 : Int32) kp fst aft kk [(.long (xsx kk.toNatClampNeg)), (.int (f19 kk.toNatClampNeg)), (.ref pp)])) rfl (by rw [hml]; rfl) rfl (argsL := [(.int (f19 kk.toNatClampNeg)), (.long (xsx kk.toNatClampNeg))]) (rest := []) rfl (lenOf o_pd7 rfl) rfl (hb hby o_d7_144) (o_b rfl) (o_b rfl) (o_b rfl) (o_b rfl)
  obtain ⟨rfl, rfl, e46⟩ := hQ46
  rw [List.append_nil] at X46
  refine o_q T46 (o_f19 m 147 pp start ending (-1 : Int32) kp fst aft kk []) st46 ?_
  refine o_q T46 (o_f19 m 150 pp start ending (-1 : Int32) kp fst aft (kk + (1 : Int32)) []) (fun _ k9 => XS.iinc X46.here hx rfl (hb hby o_d7_147) rfl (l' := (o_t19 pp start ending (-1 : Int32) kp fst aft (kk + (1 : Int32)))) rfl k9) ?_
  refine o_go 110 X46 hx hby o_d7_150 ?_
  have hP47 : o_Pr Z n0 pp rc ru wa tmx frx tlx lax L2 chx gbx xsx f19 rsx h19 := ⟨Y20, Y21, Y22, Y23, Y24, Y25, Y26, Y27, Y28, Y29, Y30, Y31, Y32, Y33, Y34, Y35, Y36, Y37, Y38, A19, Y40, nt1, wl1, gp1, gt1, gf1, gr1, gu1⟩
  have q49 : ((kk + (1 : Int32))).toInt ≤ 33 := by
   have r1 := rng32 kk
   have k2 : (1 : Int32).toInt = 1 := by decide
   have e3 : ((kk + (1 : Int32))).toInt = kk.toInt + 1 := by
    rw [Jvm.Free.XT.add32 ⟨by rw [show (1 : Int32).toInt = 1 from by decide]; omega, by rw [show (1 : Int32).toInt = 1 from by decide]; omega⟩]; rw [show (1 : Int32).toInt = 1 from by decide]
   have r4 := rng32 aft
   have r5 := rng32 tlx
   have d0 : kk.toInt < aft.toInt := Int32.lt_iff_toInt_lt.mp c0
   omega
  have q50 : 0 ≤ ((kk + (1 : Int32))).toInt := by
   have r1 := rng32 kk
   have k2 : (1 : Int32).toInt = 1 := by decide
   have e3 : ((kk + (1 : Int32))).toInt = kk.toInt + 1 := by
    rw [Jvm.Free.XT.add32 ⟨by rw [show (1 : Int32).toInt = 1 from by decide]; omega, by rw [show (1 : Int32).toInt = 1 from by decide]; omega⟩]; rw [show (1 : Int32).toInt = 1 from by decide]
   have r4 := rng32 aft
   have r5 := rng32 tlx
   have d0 : kk.toInt < aft.toInt := Int32.lt_iff_toInt_lt.mp c0
   omega
  have q51 : aft.toInt - ((kk + (1 : Int32))).toInt + 40 ≤ (k : Int) := by
   have r1 := rng32 kk
   have k2 : (1 : Int32).toInt = 1 := by decide
   have e3 : ((kk + (1 : Int32))).toInt = kk.toInt + 1 := by
    rw [Jvm.Free.XT.add32 ⟨by rw [show (1 : Int32).toInt = 1 from by decide]; omega, by rw [show (1 : Int32).toInt = 1 from by decide]; omega⟩]; rw [show (1 : Int32).toInt = 1 from by decide]
   have r4 := rng32 aft
   have d0 : kk.toInt < aft.toInt := Int32.lt_iff_toInt_lt.mp c0
   omega
  have kz48 : ((kk + (1 : Int32))).toNatClampNeg = kk.toNatClampNeg + 1 := by
   have r1 := rng32 kk
   have k2 : (1 : Int32).toInt = 1 := by decide
   have e3 : ((kk + (1 : Int32))).toInt = kk.toInt + 1 := by
    rw [Jvm.Free.XT.add32 ⟨by rw [show (1 : Int32).toInt = 1 from by decide]; omega, by rw [show (1 : Int32).toInt = 1 from by decide]; omega⟩]; rw [show (1 : Int32).toInt = 1 from by decide]
   have r4 := rng32 aft
   have r5 := rng32 tlx
   have d0 : kk.toInt < aft.toInt := Int32.lt_iff_toInt_lt.mp c0
   have n0 := o_nat (kk) (by omega)
   have n1 := o_nat ((kk + (1 : Int32))) (by omega)
   omega
  obtain ⟨S248, U248⟩ := o_Sstep Dd kn45 Sx Uk vv45.1 (fun i hi => by rw [d_f19]; dsimp only; rw [if_neg hi])
  exact ih (kk + (1 : Int32)) f19 _ _ X46 e46 N_19 hP47 q49 q50 q51 S248 (by rw [kz48]; exact U248)
 ·refine o_cY 153 X0 hx hby o_d7_114 (flt c0).2.1 ?_
  refine o_q T (o_f19 m 154 pp start ending (-1 : Int32) kp fst aft kk [(.ref pp)]) (fun _ k9 => XS.aloadN X0.here hx rfl (hb hby o_d7_153) rfl rfl k9) ?_
  refine o_gF X0 hx hZ e0 hby hown (o_m hw 25 rfl) F1_runs o_d7_154 fun T52 X52 e52 => ?_
  refine o_q T52 (o_f19 m 159 pp start ending (-1 : Int32) kp fst aft kk [(.int fst), (.ref ru)]) (fun _ k9 => XS.iload X52.here hx rfl (hb hby o_d7_157) rfl k9) ?_
  refine o_q T52 (o_f19 m 161 pp start ending (-1 : Int32) kp fst aft kk [(.int aft), (.int fst), (.ref ru)]) (fun _ k9 => XS.iload X52.here hx rfl (hb hby o_d7_159) rfl k9) ?_
  obtain ⟨v53, T53, L53, hQ53, X53, st53⟩ := o_callV X52 hx hZ e52 hown (o_m hw 111 rfl) (o_m hw 112 rfl) (o_m hw 114 rfl) (o_m hw 113 rfl) (by decide) (b := ru) Er1 (o_m hw 115 rfl) (o_m hw 18 rfl) (o_k15_7 l Z a0 hw ru fst aft hh Fn1) (g := (o_f19 m 161 pp start ending (-1 : Int32) kp fst aft kk [(.int aft), (.int fst), (.ref ru)])) rfl (by rw [hml]; rfl) rfl (argsL := [(.int fst), (.int aft)]) (rest := []) rfl (lenOf o_pd5 rfl) rfl (hb hby o_d7_161) (o_b rfl) (o_b rfl) (o_b rfl) (o_b rfl)
  obtain ⟨rfl, rfl, e53⟩ := hQ53
  rw [List.append_nil] at X53
  refine o_q T53 (o_f19 m 164 pp start ending (-1 : Int32) kp fst aft kk []) st53 ?_
  refine o_q T53 (o_f19 m 165 pp start ending (-1 : Int32) kp fst aft kk [(.ref pp)]) (fun _ k9 => XS.aloadN X53.here hx rfl (hb hby o_d7_164) rfl rfl k9) ?_
  refine o_q T53 (o_f19 m 167 pp start ending (-1 : Int32) kp fst aft kk [(.int aft), (.ref pp)]) (fun _ k9 => XS.iload X53.here hx rfl (hb hby o_d7_165) rfl k9) ?_
  have q54 : 1 ≤ tlx.toInt := by
   have r1 := rng32 tlx
   have r2 := rng32 kk
   have r3 := rng32 aft
   have d0 : ¬ (kk.toInt < aft.toInt) := mt Int32.lt_iff_toInt_lt.mpr c0
   omega
  have q55 : tlx.toInt ≤ L2.toInt := by
   have r1 := rng32 tlx
   have r2 := rng32 L2
   have r3 := rng32 kk
   have r4 := rng32 aft
   have d0 : ¬ (kk.toInt < aft.toInt) := mt Int32.lt_iff_toInt_lt.mpr c0
   omega
  have q56 : L2.toInt ≤ 32 := by
   have r1 := rng32 L2
   have r2 := rng32 kk
   have r3 := rng32 aft
   have d0 : ¬ (kk.toInt < aft.toInt) := mt Int32.lt_iff_toInt_lt.mpr c0
   omega
  have q57 : 0 ≤ aft.toInt := by
   have r1 := rng32 aft
   have r2 := rng32 kk
   have d0 : ¬ (kk.toInt < aft.toInt) := mt Int32.lt_iff_toInt_lt.mpr c0
   omega
  have hP58 : o_Pr Z n0 pp rc ru wa tmx frx tlx lax L2 chx gbx xsx fsc rsx hh := ⟨Ep1, Er1, Ew1, F1_cpus, F1_times, F1_free, F1_head, F1_tail, F1_lastAt, F1_runs, F1_firstKnown, F1_watcher, F1_watchedAs, F1_changes, F1_merged, F1_gaveBack, F1_recent, Fn1, At1, Af1, Ar1, nt1, wl1, gp1, gt1, gf1, gr1, gu1⟩
  obtain ⟨v59, T59, L59, hQ59, X59, st59⟩ := o_callP X53 hx hZ e53 hown (o_m hw 116 rfl) (o_m hw 117 rfl) (o_m hw 8 rfl) (o_m hw 118 rfl) (by decide) (a := pp) Ep1 (o_m hw 119 rfl) (o_m hw 9 rfl) (o_merge l Z a0 hw n0 pp rc ru wa tmx frx tlx lax L2 chx gbx xsx fsc rsx aft hh hP58 q54 q55 q56 q57) (g := (o_f19 m 167 pp start ending (-1 : Int32) kp fst aft kk [(.int aft), (.ref pp)])) rfl (by rw [hml]; rfl) rfl (argsL := [(.int aft)]) (rest := []) rfl (lenOf o_pd3 rfl) rfl (hb hby o_d7_167) (o_b rfl) (o_b rfl) (o_b rfl) (o_b rfl)
  obtain ⟨h59, e59⟩ : ∃ z, T59.heap = z := ⟨_, rfl⟩
  rw [e59] at hQ59
  obtain ⟨tl59, xs59, fs59, rfl, N59, hR59, ma59, mb59, mc59, md59, me59⟩ := hQ59
  have N_59 := Fr.app NL N59
  obtain ⟨Ep60, Er60, Ew60, F60_cpus, F60_times, F60_free, F60_head, F60_tail, F60_lastAt, F60_runs, F60_firstKnown, F60_watcher, F60_watchedAs, F60_changes, F60_merged, F60_gaveBack, F60_recent, Fn60, At60, Af60, Ar60, nt60, wl60, gp60, gt60, gf60, gr60, gu60⟩ := hR59
  refine o_q T59 (o_f19 m 170 pp start ending (-1 : Int32) kp fst aft kk []) st59 ?_
  refine o_q T59 (o_f19 m 171 pp start ending (-1 : Int32) kp fst aft kk [(.ref pp)]) (fun _ k9 => XS.aloadN X59.here hx rfl (hb hby o_d7_170) rfl rfl k9) ?_
  refine o_q T59 (o_f19 m 173 pp start ending (-1 : Int32) kp fst aft kk [(.int fst), (.ref pp)]) (fun _ k9 => XS.iload X59.here hx rfl (hb hby o_d7_171) rfl k9) ?_
  have q75 : 1 ≤ tl59.toInt := by
   have r1 := rng32 tl59
   have r2 := rng32 kk
   have r3 := rng32 aft
   have d0 : ¬ (kk.toInt < aft.toInt) := mt Int32.lt_iff_toInt_lt.mpr c0
   omega
  have q76 : tl59.toInt ≤ L2.toInt := by
   have r1 := rng32 tl59
   have r2 := rng32 L2
   have r3 := rng32 kk
   have r4 := rng32 aft
   have d0 : ¬ (kk.toInt < aft.toInt) := mt Int32.lt_iff_toInt_lt.mpr c0
   omega
  have q77 : L2.toInt ≤ 32 := by
   have r1 := rng32 L2
   have r2 := rng32 kk
   have r3 := rng32 aft
   have d0 : ¬ (kk.toInt < aft.toInt) := mt Int32.lt_iff_toInt_lt.mpr c0
   omega
  have q78 : 0 ≤ fst.toInt := by
   have r1 := rng32 fst
   have r2 := rng32 kk
   have r3 := rng32 aft
   have d0 : ¬ (kk.toInt < aft.toInt) := mt Int32.lt_iff_toInt_lt.mpr c0
   omega
  have hP79 : o_Pr Z n0 pp rc ru wa tmx frx tl59 lax L2 chx gbx xs59 fs59 rsx h59 := ⟨Ep60, Er60, Ew60, F60_cpus, F60_times, F60_free, F60_head, F60_tail, F60_lastAt, F60_runs, F60_firstKnown, F60_watcher, F60_watchedAs, F60_changes, F60_merged, F60_gaveBack, F60_recent, Fn60, At60, Af60, Ar60, nt60, wl60, gp60, gt60, gf60, gr60, gu60⟩
  obtain ⟨v80, T80, L80, hQ80, X80, st80⟩ := o_callP X59 hx hZ e59 hown (o_m hw 116 rfl) (o_m hw 117 rfl) (o_m hw 8 rfl) (o_m hw 118 rfl) (by decide) (a := pp) Ep60 (o_m hw 119 rfl) (o_m hw 9 rfl) (o_merge l Z a0 hw n0 pp rc ru wa tmx frx tl59 lax L2 chx gbx xs59 fs59 rsx fst h59 hP79 q75 q76 q77 q78) (g := (o_f19 m 173 pp start ending (-1 : Int32) kp fst aft kk [(.int fst), (.ref pp)])) rfl (by rw [hml]; rfl) rfl (argsL := [(.int fst)]) (rest := []) rfl (lenOf o_pd3 rfl) rfl (hb hby o_d7_173) (o_b rfl) (o_b rfl) (o_b rfl) (o_b rfl)
  obtain ⟨h80, e80⟩ : ∃ z, T80.heap = z := ⟨_, rfl⟩
  rw [e80] at hQ80
  obtain ⟨tl80, xs80, fs80, rfl, N80, hR80, ma80, mb80, mc80, md80, me80⟩ := hQ80
  have N_80 := Fr.app N_59 N80
  obtain ⟨Ep81, Er81, Ew81, F81_cpus, F81_times, F81_free, F81_head, F81_tail, F81_lastAt, F81_runs, F81_firstKnown, F81_watcher, F81_watchedAs, F81_changes, F81_merged, F81_gaveBack, F81_recent, Fn81, At81, Af81, Ar81, nt81, wl81, gp81, gt81, gf81, gr81, gu81⟩ := hR80
  refine o_q T80 (o_f19 m 176 pp start ending (-1 : Int32) kp fst aft kk []) st80 ?_
  have hP96 : o_Pr Z n0 pp rc ru wa tmx frx tl80 lax L2 chx gbx xs80 fs80 rsx h80 := ⟨Ep81, Er81, Ew81, F81_cpus, F81_times, F81_free, F81_head, F81_tail, F81_lastAt, F81_runs, F81_firstKnown, F81_watcher, F81_watchedAs, F81_changes, F81_merged, F81_gaveBack, F81_recent, Fn81, At81, Af81, Ar81, nt81, wl81, gp81, gt81, gf81, gr81, gu81⟩
  have n197 : 1 ≤ tlx.toNatClampNeg := by
   have r1 := rng32 tlx
   have r2 := rng32 kk
   have r3 := rng32 aft
   have d0 : ¬ (kk.toInt < aft.toInt) := mt Int32.lt_iff_toInt_lt.mpr c0
   have n0 := o_nat (tlx) (by omega)
   omega
  have n297 : 1 ≤ tl59.toNatClampNeg := by
   have r1 := rng32 tl59
   have r2 := rng32 kk
   have r3 := rng32 aft
   have d0 : ¬ (kk.toInt < aft.toInt) := mt Int32.lt_iff_toInt_lt.mpr c0
   have n0 := o_nat (tl59) (by omega)
   omega
  have q98 : 1 ≤ tl80.toInt := by
   have r1 := rng32 tl80
   have r2 := rng32 kk
   have r3 := rng32 aft
   have d0 : ¬ (kk.toInt < aft.toInt) := mt Int32.lt_iff_toInt_lt.mpr c0
   omega
  have q99 : tl80.toInt ≤ tlx.toInt := by
   have r1 := rng32 tl80
   have r2 := rng32 tlx
   have r3 := rng32 kk
   have r4 := rng32 aft
   have d0 : ¬ (kk.toInt < aft.toInt) := mt Int32.lt_iff_toInt_lt.mpr c0
   omega
  refine o_retV X80 hx hlk hret (hb hby o_d7_176) ?_ (o_b rfl) (o_b rfl)
  rw [e80]
  exact ⟨tl80, xs80, fs80, rfl, N_80, hP96, q98, q99, (md80.trans md59), (o_Smerge n297 (o_Smerge n197 Sx mc59 me59) mc80 me80)⟩
set_option maxRecDepth 65536 in
set_option maxHeartbeats 40000000 in
theorem o_addG_m1 (l : Launch) (Z : State) (a0 : Array Value) (hw : ∀ d ∈ tables_1, d.before a0 Z = true) (n0 : Nat) (pp rc ru wa tm fr : Addr) (tl la L : Int32) (ch gb : Int64) (xs : Nat → Int64) (fs : Nat → Int32) (rs : Nat → Int64) (L2 : Int32) (start ending : Int64) (cn : Nat) (lo hi lo1 hi1 : Int) (h0 : Heap) (hP : o_Pr Z n0 pp rc ru wa tm fr tl la L ch gb xs fs rs h0) (i1 : 1 ≤ tl.toInt) (i2 : tl.toInt ≤ L.toInt) (i3 : L2.toInt ≤ 32) (i4 : tl.toInt + 2 ≤ L2.toInt) (lz : L2 = ((2 : Int32) * L)) (lq : L2.toInt = 2 * L.toInt) (lh : (L / (2 : Int32)).toInt ≤ L.toInt) (lv : 4 ≤ L.toInt) (lw : L.toInt ≤ 16) (i5 : L.toInt < tl.toInt + 2) (hse : start < ending) (hc : ch.toInt = (cn : Int)) (hc2 : cn ≤ 100) (Dd : o_D lo hi lo1 hi1 (-1)) (Sg : o_S lo hi tl.toNatClampNeg xs fs) (hz : hi ≤ 15 → ¬ start < xs 0) :
  o_C l (⟨o_n1, "add", "(JJI)V"⟩ : MethodName) o_y12 10 none (o_R 5 2 64 100) Z h0 #[(.ref pp), (.long start), (.long ending), (.int (-1 : Int32))] (fun v h Ls => ∃ (tm' fr' : Addr) (tl' la' : Int32) (xs' : Nat → Int64) (fs' : Nat → Int32), v = none ∧ Fr n0 Ls ∧ o_Pr Z n0 pp rc ru wa tm' fr' tl' la' L2 (ch + (1 : Int64)) gb xs' fs' (o_put rs (cn + 1) start ending (0 : Int64)) h ∧ 1 ≤ tl'.toInt ∧ tl'.toInt ≤ tl.toInt + 2 ∧ xs' 0 = xs 0 ∧ o_S lo1 hi1 tl'.toNatClampNeg xs' fs') := by
 refine o_body o_pn7 ?_
 intro p e s m below meth c s₁ hx hby hml hZ hown hnm hret hlk X0 e0
 refine o_cast (f' := (o_f20 m 0 pp start ending (-1 : Int32) [])) (by first | (simp [entryFrame, mkF, argsToLocals, Value.category, maxLocals]; done) | rfl) ?_
 obtain ⟨Ep1, Er1, Ew1, F1_cpus, F1_times, F1_free, F1_head, F1_tail, F1_lastAt, F1_runs, F1_firstKnown, F1_watcher, F1_watchedAs, F1_changes, F1_merged, F1_gaveBack, F1_recent, Fn1, At1, Af1, Ar1, nt1, wl1, gp1, gt1, gf1, gr1, gu1⟩ := hP
 refine o_q s₁ (o_f20 m 1 pp start ending (-1 : Int32) [(.long start)]) (fun _ k9 => XS.lloadN X0.here hx rfl (hb hby o_d7_0) rfl k9) ?_
 refine o_q s₁ (o_f20 m 2 pp start ending (-1 : Int32) [(.long ending), (.long start)]) (fun _ k9 => XS.lloadN X0.here hx rfl (hb hby o_d7_1) rfl k9) ?_
 refine o_q s₁ (o_f20 m 3 pp start ending (-1 : Int32) [(.int (lcmpW start ending))]) (fun _ k9 => XS.lcmp X0.here hx rfl (hb hby o_d7_2) rfl k9) ?_
 refine o_fY 7 X0 hx hby o_d7_3 ((if0 _ _).trans (tlt ((lw_lt _ _).mpr hse)).1) ?_
 refine o_q s₁ (o_f20 m 8 pp start ending (-1 : Int32) [(.ref pp)]) (fun _ k9 => XS.aloadN X0.here hx rfl (hb hby o_d7_7) rfl rfl k9) ?_
 have hP16 : o_Pr Z n0 pp rc ru wa tm fr tl la L ch gb xs fs rs h0 := ⟨Ep1, Er1, Ew1, F1_cpus, F1_times, F1_free, F1_head, F1_tail, F1_lastAt, F1_runs, F1_firstKnown, F1_watcher, F1_watchedAs, F1_changes, F1_merged, F1_gaveBack, F1_recent, Fn1, At1, Af1, Ar1, nt1, wl1, gp1, gt1, gf1, gr1, gu1⟩
 obtain ⟨v17, T17, L17, hQ17, X17, st17⟩ := o_callP X0 hx hZ e0 hown (o_m hw 61 rfl) (o_m hw 62 rfl) (o_m hw 8 rfl) (o_m hw 63 rfl) (by decide) (a := pp) Ep1 (o_m hw 64 rfl) (o_m hw 9 rfl) (o_counts l Z a0 hw n0 pp rc ru wa tm fr tl la L ch gb xs fs rs  h0 hP16 ) (g := (o_f20 m 8 pp start ending (-1 : Int32) [(.ref pp)])) rfl (by rw [hml]; rfl) rfl (argsL := []) (rest := []) rfl (lenOf o_pd0 rfl) rfl (hb hby o_d7_8) (o_b rfl) (o_b rfl) (o_b rfl) (o_b rfl)
 obtain ⟨h17, e17⟩ : ∃ z, T17.heap = z := ⟨_, rfl⟩
 rw [e17] at hQ17
 obtain ⟨rfl, N17, hR17⟩ := hQ17
 have N_17 := Fr.app (Fr.nil _) N17
 obtain ⟨Ep18, Er18, Ew18, F18_cpus, F18_times, F18_free, F18_head, F18_tail, F18_lastAt, F18_runs, F18_firstKnown, F18_watcher, F18_watchedAs, F18_changes, F18_merged, F18_gaveBack, F18_recent, Fn18, At18, Af18, Ar18, nt18, wl18, gp18, gt18, gf18, gr18, gu18⟩ := hR17
 have ne19 : o_ne pp ru := Ep18.ne Er18 (by decide)
 have ne20 : o_ne pp tm := At18.neExa Ep18 (o_m hw 8 rfl)
 have ne22 : o_ne pp fr := Af18.neExa Ep18 (o_m hw 8 rfl)
 have ne24 : o_ne pp rc := Ar18.neExa Ep18 (o_m hw 8 rfl)
 have ne25 : o_ne ru rc := Ar18.neExa Er18 (o_m hw 17 rfl)
 have ne32 : o_ne fr rc := Af18.ne Ar18 (by intro q; cases q)
 refine o_q T17 (o_f20 m 11 pp start ending (-1 : Int32) []) st17 ?_
 refine o_iC (3 : Int32) X17 hx hby o_d7_11 rfl ?_
 refine o_q T17 (o_f20 m 13 pp start ending (-1 : Int32) [(.ref pp), (.int (3 : Int32))]) (fun _ k9 => XS.aloadN X17.here hx rfl (hb hby o_d7_12) rfl rfl k9) ?_
 refine o_q T17 (o_f20 m 14 pp start ending (-1 : Int32) [(.ref pp), (.ref pp), (.int (3 : Int32))]) (fun _ k9 => XS.dup X17.here hx rfl (hb hby o_d7_13) rfl rfl k9) ?_
 refine o_gF X17 hx hZ e17 hby hown (o_m hw 79 rfl) F18_changes o_d7_14 fun T33 X33 e33 => ?_
 refine o_lC (1 : Int64) X33 hx hby o_d7_17 rfl ?_
 refine o_q T33 (o_f20 m 19 pp start ending (-1 : Int32) [(.long (ch + (1 : Int64))), (.ref pp), (.int (3 : Int32))]) (fun _ k9 => XS.ladd X33.here hx rfl (hb hby o_d7_18) rfl k9) ?_
 refine o_q T33 (o_f20 m 20 pp start ending (-1 : Int32) [(.long (ch + (1 : Int64))), (.ref pp), (.long (ch + (1 : Int64))), (.int (3 : Int32))]) (fun _ k9 => by jvm_step X33.here [X33.here.top, hx, (hb hby o_d7_19), Value.category]; exact k9) ?_
 refine o_pF X33 hx hZ e33 hby (ty := .long) hown (o_m hw 79 rfl) F18_changes Ep18 (Or.inl (o_m hw 80 rfl)) (o_m hw 8 rfl) (by decide) rfl rfl o_d7_20 fun T34 h34 X34 e34 W34 => ?_
 have Fw34 := F18_changes.same W34
 have N_34 := Fr.snoc X34 N_17 gp18
 have Y35 := Ep18.wr W34
 have Y36 := Er18.wr W34
 have Y37 := Ew18.wr W34
 have Y38 := F18_cpus.other W34 (o_sn (Or.inr (o_m hw 41 rfl)) (Or.inl (o_m hw 80 rfl)))
 have Y39 := F18_times.other W34 (o_sn (Or.inl (o_m hw 44 rfl)) (Or.inl (o_m hw 80 rfl)))
 have Y40 := F18_free.other W34 (o_sn (Or.inl (o_m hw 47 rfl)) (Or.inl (o_m hw 80 rfl)))
 have Y41 := F18_head.other W34 (o_sn (Or.inl (o_m hw 95 rfl)) (Or.inl (o_m hw 80 rfl)))
 have Y42 := F18_tail.other W34 (o_sn (Or.inl (o_m hw 49 rfl)) (Or.inl (o_m hw 80 rfl)))
 have Y43 := F18_lastAt.other W34 (o_sn (Or.inl (o_m hw 149 rfl)) (Or.inl (o_m hw 80 rfl)))
 have Y44 := F18_runs.other W34 (o_sn (Or.inr (o_m hw 26 rfl)) (Or.inl (o_m hw 80 rfl)))
 have Y45 := F18_firstKnown.other W34 (o_sn (Or.inl (o_m hw 66 rfl)) (Or.inl (o_m hw 80 rfl)))
 have Y46 := F18_watcher.other W34 (o_sn (Or.inl (o_m hw 39 rfl)) (Or.inl (o_m hw 80 rfl)))
 have Y47 := F18_watchedAs.other W34 (o_sn (Or.inl (o_m hw 68 rfl)) (Or.inl (o_m hw 80 rfl)))
 have Y49 := F18_merged.other W34 (o_sn (Or.inl (o_m hw 177 rfl)) (Or.inl (o_m hw 80 rfl)))
 have Y50 := F18_gaveBack.other W34 (o_sn (Or.inl (o_m hw 179 rfl)) (Or.inl (o_m hw 80 rfl)))
 have Y51 := F18_recent.other W34 (o_sn (Or.inr (o_m hw 35 rfl)) (Or.inl (o_m hw 80 rfl)))
 have Y52 := Fn18.other W34 (Or.inl (Ne.symm ne19))
 have Y53 := At18.other W34 (Ne.symm ne20)
 have Y54 := Af18.other W34 (Ne.symm ne22)
 have Y55 := Ar18.other W34 (Ne.symm ne24)
 refine o_q T34 (o_f20 m 26 pp start ending (-1 : Int32) [(.long (8 : Int64)), (.long (ch + (1 : Int64))), (.int (3 : Int32))]) (fun _ k9 => X34.ldc2Long hx hown (mvT hZ (o_m hw 81 rfl)) (g := (o_f20 m 23 pp start ending (-1 : Int32) [(.long (ch + (1 : Int64))), (.int (3 : Int32))])) rfl (hb hby o_d7_23) _ k9) ?_
 refine o_q T34 (o_f20 m 27 pp start ending (-1 : Int32) [(.long ((ch + (1 : Int64)) - ((ch + (1 : Int64)) / (8 : Int64)) * (8 : Int64))), (.int (3 : Int32))]) (fun _ k9 => XS.lrem X34.here hx rfl (hb hby o_d7_26) rfl (by decide) k9) ?_
 refine o_q T34 (o_f20 m 28 pp start ending (-1 : Int32) [(.int (((ch + (1 : Int64)) - ((ch + (1 : Int64)) / (8 : Int64)) * (8 : Int64))).toInt32), (.int (3 : Int32))]) (fun _ k9 => XS.l2i X34.here hx rfl (hb hby o_d7_27) rfl k9) ?_
 refine o_q T34 (o_f20 m 29 pp start ending (-1 : Int32) [(.int ((3 : Int32) * (((ch + (1 : Int64)) - ((ch + (1 : Int64)) / (8 : Int64)) * (8 : Int64))).toInt32))]) (fun _ k9 => XS.imul X34.here hx rfl (hb hby o_d7_28) rfl k9) ?_
 obtain ⟨kp, h_kp⟩ : ∃ z, z = ((3 : Int32) * (((ch + (1 : Int64)) - ((ch + (1 : Int64)) / (8 : Int64)) * (8 : Int64))).toInt32) := ⟨_, rfl⟩
 rw [← h_kp]
 obtain ⟨q8, hq8⟩ : ∃ z, z = (cn + 1) % 8 := ⟨_, rfl⟩
 have hk8 : q8 < 8 := hq8 ▸ Nat.mod_lt _ (by decide)
 have hkp : kp.toInt = 3 * (q8 : Int) := by rw [h_kp, o_kept ch cn hc hc2, ← hq8]; rfl
 refine o_q T34 (o_f21 m 31 pp start ending (-1 : Int32) kp []) (fun _ k9 => XS.istore X34.here hx rfl (hb hby o_d7_29) rfl (l' := (o_t21 pp start ending (-1 : Int32) kp)) rfl k9) ?_
 refine o_q T34 (o_f21 m 32 pp start ending (-1 : Int32) kp [(.ref pp)]) (fun _ k9 => XS.aloadN X34.here hx rfl (hb hby o_d7_31) rfl rfl k9) ?_
 refine o_gF X34 hx hZ e34 hby hown (o_m hw 34 rfl) Y51 o_d7_32 fun T56 X56 e56 => ?_
 refine o_q T56 (o_f21 m 37 pp start ending (-1 : Int32) kp [(.int kp), (.ref rc)]) (fun _ k9 => XS.iload X56.here hx rfl (hb hby o_d7_35) rfl k9) ?_
 refine o_q T56 (o_f21 m 38 pp start ending (-1 : Int32) kp [(.long start), (.int kp), (.ref rc)]) (fun _ k9 => XS.lloadN X56.here hx rfl (hb hby o_d7_37) rfl k9) ?_
 have hin57 : ¬ (kp < (0 : Int32)) ∧ kp < (24 : Int32) := by
  have r1 := rng32 kp
  have k2 : (24 : Int32).toInt = 24 := by decide
  have k3 : (0 : Int32).toInt = 0 := by decide
  rw [Int32.lt_iff_toInt_lt, Int32.lt_iff_toInt_lt]
  omega
 refine o_tJ X56 hx hZ e56 hby Y55 hin57 o_d7_38 fun T58 h58 X58 e58 W58 A58 => ?_
 obtain ⟨f58, d_f58⟩ : ∃ z : Nat → Int64, z = (fun i => if i = kp.toNatClampNeg then start else rs i) := ⟨_, rfl⟩
 rw [← d_f58] at A58
 have N_58 := Fr.snoc X58 N_34 gr18
 have Y59 := Y35.wr W58
 have Y60 := Y36.wr W58
 have Y61 := Y37.wr W58
 have Y62 := Y38.other W58 (Or.inl ne24)
 have Y63 := Y39.other W58 (Or.inl ne24)
 have Y64 := Y40.other W58 (Or.inl ne24)
 have Y65 := Y41.other W58 (Or.inl ne24)
 have Y66 := Y42.other W58 (Or.inl ne24)
 have Y67 := Y43.other W58 (Or.inl ne24)
 have Y68 := Y44.other W58 (Or.inl ne24)
 have Y69 := Y45.other W58 (Or.inl ne24)
 have Y70 := Y46.other W58 (Or.inl ne24)
 have Y71 := Y47.other W58 (Or.inl ne24)
 have Y72 := Fw34.other W58 (Or.inl ne24)
 have Y73 := Y49.other W58 (Or.inl ne24)
 have Y74 := Y50.other W58 (Or.inl ne24)
 have Y75 := Y51.other W58 (Or.inl ne24)
 have Y76 := Y52.other W58 (Or.inl ne25)
 have Y77 := Y53.other W58 nt18
 have Y78 := Y54.other W58 ne32
 refine o_q T58 (o_f21 m 40 pp start ending (-1 : Int32) kp [(.ref pp)]) (fun _ k9 => XS.aloadN X58.here hx rfl (hb hby o_d7_39) rfl rfl k9) ?_
 refine o_gF X58 hx hZ e58 hby hown (o_m hw 34 rfl) Y75 o_d7_40 fun T80 X80 e80 => ?_
 refine o_q T80 (o_f21 m 45 pp start ending (-1 : Int32) kp [(.int kp), (.ref rc)]) (fun _ k9 => XS.iload X80.here hx rfl (hb hby o_d7_43) rfl k9) ?_
 refine o_iC (1 : Int32) X80 hx hby o_d7_45 rfl ?_
 refine o_q T80 (o_f21 m 47 pp start ending (-1 : Int32) kp [(.int (kp + (1 : Int32))), (.ref rc)]) (fun _ k9 => XS.iadd X80.here hx rfl (hb hby o_d7_46) rfl k9) ?_
 refine o_q T80 (o_f21 m 48 pp start ending (-1 : Int32) kp [(.long ending), (.int (kp + (1 : Int32))), (.ref rc)]) (fun _ k9 => XS.lloadN X80.here hx rfl (hb hby o_d7_47) rfl k9) ?_
 have hin81 : ¬ ((kp + (1 : Int32)) < (0 : Int32)) ∧ (kp + (1 : Int32)) < (24 : Int32) := by
  have r1 := rng32 kp
  have k2 : (1 : Int32).toInt = 1 := by decide
  have e3 : ((kp + (1 : Int32))).toInt = kp.toInt + 1 := by
   rw [Jvm.Free.XT.add32 ⟨by rw [show (1 : Int32).toInt = 1 from by decide]; omega, by rw [show (1 : Int32).toInt = 1 from by decide]; omega⟩]; rw [show (1 : Int32).toInt = 1 from by decide]
  have k4 : (24 : Int32).toInt = 24 := by decide
  have k5 : (0 : Int32).toInt = 0 := by decide
  rw [Int32.lt_iff_toInt_lt, Int32.lt_iff_toInt_lt]
  omega
 refine o_tJ X80 hx hZ e80 hby A58 hin81 o_d7_48 fun T82 h82 X82 e82 W82 A82 => ?_
 obtain ⟨f82, d_f82⟩ : ∃ z : Nat → Int64, z = (fun i => if i = ((kp + (1 : Int32))).toNatClampNeg then ending else f58 i) := ⟨_, rfl⟩
 rw [← d_f82] at A82
 have N_82 := Fr.snoc X82 N_58 gr18
 have Y83 := Y59.wr W82
 have Y84 := Y60.wr W82
 have Y85 := Y61.wr W82
 have Y86 := Y62.other W82 (Or.inl ne24)
 have Y87 := Y63.other W82 (Or.inl ne24)
 have Y88 := Y64.other W82 (Or.inl ne24)
 have Y89 := Y65.other W82 (Or.inl ne24)
 have Y90 := Y66.other W82 (Or.inl ne24)
 have Y91 := Y67.other W82 (Or.inl ne24)
 have Y92 := Y68.other W82 (Or.inl ne24)
 have Y93 := Y69.other W82 (Or.inl ne24)
 have Y94 := Y70.other W82 (Or.inl ne24)
 have Y95 := Y71.other W82 (Or.inl ne24)
 have Y96 := Y72.other W82 (Or.inl ne24)
 have Y97 := Y73.other W82 (Or.inl ne24)
 have Y98 := Y74.other W82 (Or.inl ne24)
 have Y99 := Y75.other W82 (Or.inl ne24)
 have Y100 := Y76.other W82 (Or.inl ne25)
 have Y101 := Y77.other W82 nt18
 have Y102 := Y78.other W82 ne32
 refine o_q T82 (o_f21 m 50 pp start ending (-1 : Int32) kp [(.ref pp)]) (fun _ k9 => XS.aloadN X82.here hx rfl (hb hby o_d7_49) rfl rfl k9) ?_
 refine o_gF X82 hx hZ e82 hby hown (o_m hw 34 rfl) Y99 o_d7_50 fun T104 X104 e104 => ?_
 refine o_q T104 (o_f21 m 55 pp start ending (-1 : Int32) kp [(.int kp), (.ref rc)]) (fun _ k9 => XS.iload X104.here hx rfl (hb hby o_d7_53) rfl k9) ?_
 refine o_iC (2 : Int32) X104 hx hby o_d7_55 rfl ?_
 refine o_q T104 (o_f21 m 57 pp start ending (-1 : Int32) kp [(.int (kp + (2 : Int32))), (.ref rc)]) (fun _ k9 => XS.iadd X104.here hx rfl (hb hby o_d7_56) rfl k9) ?_
 refine o_q T104 (o_f21 m 59 pp start ending (-1 : Int32) kp [(.int (-1 : Int32)), (.int (kp + (2 : Int32))), (.ref rc)]) (fun _ k9 => XS.iload X104.here hx rfl (hb hby o_d7_57) rfl k9) ?_
 refine o_fY 66 X104 hx hby o_d7_59 ((if0 _ _).trans (flt (by decide : ¬ ((0 : Int32) < (-1 : Int32)))).2.2.2) ?_
 refine o_lC (0 : Int64) X104 hx hby o_d7_66 rfl ?_
 have hin105 : ¬ ((kp + (2 : Int32)) < (0 : Int32)) ∧ (kp + (2 : Int32)) < (24 : Int32) := by
  have r1 := rng32 kp
  have k2 : (2 : Int32).toInt = 2 := by decide
  have e3 : ((kp + (2 : Int32))).toInt = kp.toInt + 2 := by
   rw [Jvm.Free.XT.add32 ⟨by rw [show (2 : Int32).toInt = 2 from by decide]; omega, by rw [show (2 : Int32).toInt = 2 from by decide]; omega⟩]; rw [show (2 : Int32).toInt = 2 from by decide]
  have k4 : (24 : Int32).toInt = 24 := by decide
  have k5 : (0 : Int32).toInt = 0 := by decide
  rw [Int32.lt_iff_toInt_lt, Int32.lt_iff_toInt_lt]
  omega
 refine o_tJ X104 hx hZ e104 hby A82 hin105 o_d7_67 fun T106 h106 X106 e106 W106 A106 => ?_
 obtain ⟨f106, d_f106⟩ : ∃ z : Nat → Int64, z = (fun i => if i = ((kp + (2 : Int32))).toNatClampNeg then (0 : Int64) else f82 i) := ⟨_, rfl⟩
 rw [← d_f106] at A106
 have N_106 := Fr.snoc X106 N_82 gr18
 have Y107 := Y83.wr W106
 have Y108 := Y84.wr W106
 have Y109 := Y85.wr W106
 have Y110 := Y86.other W106 (Or.inl ne24)
 have Y111 := Y87.other W106 (Or.inl ne24)
 have Y112 := Y88.other W106 (Or.inl ne24)
 have Y113 := Y89.other W106 (Or.inl ne24)
 have Y114 := Y90.other W106 (Or.inl ne24)
 have Y115 := Y91.other W106 (Or.inl ne24)
 have Y116 := Y92.other W106 (Or.inl ne24)
 have Y117 := Y93.other W106 (Or.inl ne24)
 have Y118 := Y94.other W106 (Or.inl ne24)
 have Y119 := Y95.other W106 (Or.inl ne24)
 have Y120 := Y96.other W106 (Or.inl ne24)
 have Y121 := Y97.other W106 (Or.inl ne24)
 have Y122 := Y98.other W106 (Or.inl ne24)
 have Y123 := Y99.other W106 (Or.inl ne24)
 have Y124 := Y100.other W106 (Or.inl ne25)
 have Y125 := Y101.other W106 nt18
 have Y126 := Y102.other W106 ne32
 have ja : kp.toNatClampNeg = 3 * q8 := by
  have r1 := rng32 kp
  have n0 := o_nat (kp) (by omega)
  omega
 have jb : ((kp + (1 : Int32))).toNatClampNeg = 3 * q8 + 1 := by
  have r1 := rng32 kp
  have k2 : (1 : Int32).toInt = 1 := by decide
  have e3 : ((kp + (1 : Int32))).toInt = kp.toInt + 1 := by
   rw [Jvm.Free.XT.add32 ⟨by rw [show (1 : Int32).toInt = 1 from by decide]; omega, by rw [show (1 : Int32).toInt = 1 from by decide]; omega⟩]; rw [show (1 : Int32).toInt = 1 from by decide]
  have n0 := o_nat ((kp + (1 : Int32))) (by omega)
  omega
 have jc : ((kp + (2 : Int32))).toNatClampNeg = 3 * q8 + 2 := by
  have r1 := rng32 kp
  have k2 : (2 : Int32).toInt = 2 := by decide
  have e3 : ((kp + (2 : Int32))).toInt = kp.toInt + 2 := by
   rw [Jvm.Free.XT.add32 ⟨by rw [show (2 : Int32).toInt = 2 from by decide]; omega, by rw [show (2 : Int32).toInt = 2 from by decide]; omega⟩]; rw [show (2 : Int32).toInt = 2 from by decide]
  have n0 := o_nat ((kp + (2 : Int32))) (by omega)
  omega
 have RC : o_LA Z h106 rc (24 : Int32) (o_put rs (cn + 1) start ending (0 : Int64)) := A106.congr fun i _ => by
  rw [d_f106, d_f82, d_f58]
  dsimp only [o_put]
  rw [ja, jb, jc, hq8]
 refine o_q T106 (o_f21 m 70 pp start ending (-1 : Int32) kp [(.int (-1 : Int32))]) (fun _ k9 => XS.iload X106.here hx rfl (hb hby o_d7_68) rfl k9) ?_
 refine o_fY 81 X106 hx hby o_d7_70 ((if0 _ _).trans (flt (by decide : ¬ ((0 : Int32) < (-1 : Int32)))).2.2.2) ?_
 refine o_q T106 (o_f21 m 82 pp start ending (-1 : Int32) kp [(.ref pp)]) (fun _ k9 => XS.aloadN X106.here hx rfl (hb hby o_d7_81) rfl rfl k9) ?_
 refine o_q T106 (o_f21 m 83 pp start ending (-1 : Int32) kp [(.ref pp), (.ref pp)]) (fun _ k9 => XS.aloadN X106.here hx rfl (hb hby o_d7_82) rfl rfl k9) ?_
 refine o_gF X106 hx hZ e106 hby hown (o_m hw 48 rfl) Y114 o_d7_83 fun T128 X128 e128 => ?_
 refine o_iC (2 : Int32) X128 hx hby o_d7_86 rfl ?_
 refine o_q T128 (o_f21 m 88 pp start ending (-1 : Int32) kp [(.int (tl + (2 : Int32))), (.ref pp)]) (fun _ k9 => XS.iadd X128.here hx rfl (hb hby o_d7_87) rfl k9) ?_
 have hP129 : o_Pr Z n0 pp rc ru wa tm fr tl la L (ch + (1 : Int64)) gb xs fs (o_put rs (cn + 1) start ending (0 : Int64)) h106 := ⟨Y107, Y108, Y109, Y110, Y111, Y112, Y113, Y114, Y115, Y116, Y117, Y118, Y119, Y120, Y121, Y122, Y123, Y124, Y125, Y126, RC, nt18, wl18, gp18, gt18, gf18, gr18, gu18⟩
 have q130 : 1 ≤ tl.toInt := by
  have r1 := rng32 tl
  omega
 have q131 : tl.toInt ≤ L.toInt := by
  have r1 := rng32 tl
  omega
 have q132 : L.toInt < ((tl + (2 : Int32))).toInt := by
  have r1 := rng32 tl
  have k2 : (2 : Int32).toInt = 2 := by decide
  have e3 : ((tl + (2 : Int32))).toInt = tl.toInt + 2 := by
   rw [Jvm.Free.XT.add32 ⟨by rw [show (2 : Int32).toInt = 2 from by decide]; omega, by rw [show (2 : Int32).toInt = 2 from by decide]; omega⟩]; rw [show (2 : Int32).toInt = 2 from by decide]
  omega
 have q133 : ((tl + (2 : Int32))).toInt = tl.toInt + 2 := by
  have r1 := rng32 tl
  have k2 : (2 : Int32).toInt = 2 := by decide
  have e3 : ((tl + (2 : Int32))).toInt = tl.toInt + 2 := by
   rw [Jvm.Free.XT.add32 ⟨by rw [show (2 : Int32).toInt = 2 from by decide]; omega, by rw [show (2 : Int32).toInt = 2 from by decide]; omega⟩]; rw [show (2 : Int32).toInt = 2 from by decide]
  omega
 obtain ⟨v134, T134, L134, hQ134, X134, st134⟩ := o_callP X128 hx hZ e128 hown (o_m hw 82 rfl) (o_m hw 83 rfl) (o_m hw 8 rfl) (o_m hw 84 rfl) (by decide) (a := pp) Y107 (o_m hw 85 rfl) (o_m hw 9 rfl) (o_room1 l Z a0 hw n0 pp rc ru wa tm fr tl la L (ch + (1 : Int64)) gb xs fs (o_put rs (cn + 1) start ending (0 : Int64)) L2 (tl + (2 : Int32)) h106 hP129 lz lq lh lv lw q130 q131 q132 q133) (g := (o_f21 m 88 pp start ending (-1 : Int32) kp [(.int (tl + (2 : Int32))), (.ref pp)])) rfl (by rw [hml]; rfl) rfl (argsL := [(.int (tl + (2 : Int32)))]) (rest := []) rfl (lenOf o_pd1 rfl) rfl (hb hby o_d7_88) (o_b rfl) (o_b rfl) (o_b rfl) (o_b rfl)
 obtain ⟨h134, e134⟩ : ∃ z, T134.heap = z := ⟨_, rfl⟩
 rw [e134] at hQ134
 obtain ⟨tm134, fr134, xs134, fs134, rfl, N134, hR134, ra134, rb134⟩ := hQ134
 have N_134 := Fr.app N_106 N134
 obtain ⟨Ep135, Er135, Ew135, F135_cpus, F135_times, F135_free, F135_head, F135_tail, F135_lastAt, F135_runs, F135_firstKnown, F135_watcher, F135_watchedAs, F135_changes, F135_merged, F135_gaveBack, F135_recent, Fn135, At135, Af135, Ar135, nt135, wl135, gp135, gt135, gf135, gr135, gu135⟩ := hR134
 refine o_q T134 (o_f21 m 91 pp start ending (-1 : Int32) kp [(.int (0 : Int32))]) st134 ?_
 refine o_q T134 (o_f21 m 92 pp start ending (-1 : Int32) kp []) (fun _ k9 => XS.pop X134.here hx rfl (hb hby o_d7_91) rfl rfl k9) ?_
 refine o_q T134 (o_f21 m 93 pp start ending (-1 : Int32) kp [(.ref pp)]) (fun _ k9 => XS.aloadN X134.here hx rfl (hb hby o_d7_92) rfl rfl k9) ?_
 refine o_q T134 (o_f21 m 94 pp start ending (-1 : Int32) kp [(.long start), (.ref pp)]) (fun _ k9 => XS.lloadN X134.here hx rfl (hb hby o_d7_93) rfl k9) ?_
 have q150 : 1 ≤ tl.toInt := by
  have r1 := rng32 tl
  omega
 have q151 : tl.toInt ≤ L2.toInt := by
  have r1 := rng32 tl
  have r2 := rng32 L2
  omega
 have q152 : L2.toInt ≤ 32 := by
  have r1 := rng32 L2
  omega
 have q153 : tl.toInt + 1 ≤ L2.toInt := by
  have r1 := rng32 tl
  have r2 := rng32 L2
  omega
 have hP154 : o_Pr Z n0 pp rc ru wa tm134 fr134 tl la L2 (ch + (1 : Int64)) gb xs134 fs134 (o_put rs (cn + 1) start ending (0 : Int64)) h134 := ⟨Ep135, Er135, Ew135, F135_cpus, F135_times, F135_free, F135_head, F135_tail, F135_lastAt, F135_runs, F135_firstKnown, F135_watcher, F135_watchedAs, F135_changes, F135_merged, F135_gaveBack, F135_recent, Fn135, At135, Af135, Ar135, nt135, wl135, gp135, gt135, gf135, gr135, gu135⟩
 obtain ⟨v155, T155, L155, hQ155, X155, st155⟩ := o_callP X134 hx hZ e134 hown (o_m hw 86 rfl) (o_m hw 87 rfl) (o_m hw 8 rfl) (o_m hw 88 rfl) (by decide) (a := pp) Ep135 (o_m hw 89 rfl) (o_m hw 9 rfl) (o_split l Z a0 hw n0 pp rc ru wa tm134 fr134 tl la L2 (ch + (1 : Int64)) gb xs134 fs134 (o_put rs (cn + 1) start ending (0 : Int64)) start h134 hP154 q150 q151 q152 q153) (g := (o_f21 m 94 pp start ending (-1 : Int32) kp [(.long start), (.ref pp)])) rfl (by rw [hml]; rfl) rfl (argsL := [(.long start)]) (rest := []) rfl (lenOf o_pd8 rfl) rfl (hb hby o_d7_94) (o_b rfl) (o_b rfl) (o_b rfl) (o_b rfl)
 obtain ⟨h155, e155⟩ : ∃ z, T155.heap = z := ⟨_, rfl⟩
 rw [e155] at hQ155
 obtain ⟨r155, tl155, la155, xs155, fs155, rfl, N155, hR155, pa155, pb155, pc155, pd155, pe155, pf155, pg155, ph155⟩ := hQ155
 have N_155 := Fr.app N_134 N155
 obtain ⟨Ep156, Er156, Ew156, F156_cpus, F156_times, F156_free, F156_head, F156_tail, F156_lastAt, F156_runs, F156_firstKnown, F156_watcher, F156_watchedAs, F156_changes, F156_merged, F156_gaveBack, F156_recent, Fn156, At156, Af156, Ar156, nt156, wl156, gp156, gt156, gf156, gr156, gu156⟩ := hR155
 refine o_q T155 (o_f21 m 97 pp start ending (-1 : Int32) kp [(.int r155)]) st155 ?_
 refine o_q T155 (o_f22 m 99 pp start ending (-1 : Int32) kp r155 []) (fun _ k9 => XS.istore X155.here hx rfl (hb hby o_d7_97) rfl (l' := (o_t22 pp start ending (-1 : Int32) kp r155)) rfl k9) ?_
 refine o_q T155 (o_f22 m 100 pp start ending (-1 : Int32) kp r155 [(.ref pp)]) (fun _ k9 => XS.aloadN X155.here hx rfl (hb hby o_d7_99) rfl rfl k9) ?_
 refine o_q T155 (o_f22 m 101 pp start ending (-1 : Int32) kp r155 [(.long ending), (.ref pp)]) (fun _ k9 => XS.lloadN X155.here hx rfl (hb hby o_d7_100) rfl k9) ?_
 have q171 : 1 ≤ tl155.toInt := by
  have r1 := rng32 tl155
  omega
 have q172 : tl155.toInt ≤ L2.toInt := by
  have r1 := rng32 tl155
  have r2 := rng32 L2
  omega
 have q173 : L2.toInt ≤ 32 := by
  have r1 := rng32 L2
  omega
 have q174 : tl155.toInt + 1 ≤ L2.toInt := by
  have r1 := rng32 tl155
  have r2 := rng32 L2
  omega
 have hP175 : o_Pr Z n0 pp rc ru wa tm134 fr134 tl155 la155 L2 (ch + (1 : Int64)) gb xs155 fs155 (o_put rs (cn + 1) start ending (0 : Int64)) h155 := ⟨Ep156, Er156, Ew156, F156_cpus, F156_times, F156_free, F156_head, F156_tail, F156_lastAt, F156_runs, F156_firstKnown, F156_watcher, F156_watchedAs, F156_changes, F156_merged, F156_gaveBack, F156_recent, Fn156, At156, Af156, Ar156, nt156, wl156, gp156, gt156, gf156, gr156, gu156⟩
 obtain ⟨v176, T176, L176, hQ176, X176, st176⟩ := o_callP X155 hx hZ e155 hown (o_m hw 86 rfl) (o_m hw 87 rfl) (o_m hw 8 rfl) (o_m hw 88 rfl) (by decide) (a := pp) Ep156 (o_m hw 89 rfl) (o_m hw 9 rfl) (o_split l Z a0 hw n0 pp rc ru wa tm134 fr134 tl155 la155 L2 (ch + (1 : Int64)) gb xs155 fs155 (o_put rs (cn + 1) start ending (0 : Int64)) ending h155 hP175 q171 q172 q173 q174) (g := (o_f22 m 101 pp start ending (-1 : Int32) kp r155 [(.long ending), (.ref pp)])) rfl (by rw [hml]; rfl) rfl (argsL := [(.long ending)]) (rest := []) rfl (lenOf o_pd8 rfl) rfl (hb hby o_d7_101) (o_b rfl) (o_b rfl) (o_b rfl) (o_b rfl)
 obtain ⟨h176, e176⟩ : ∃ z, T176.heap = z := ⟨_, rfl⟩
 rw [e176] at hQ176
 obtain ⟨r176, tl176, la176, xs176, fs176, rfl, N176, hR176, pa176, pb176, pc176, pd176, pe176, pf176, pg176, ph176⟩ := hQ176
 have N_176 := Fr.app N_155 N176
 obtain ⟨Ep177, Er177, Ew177, F177_cpus, F177_times, F177_free, F177_head, F177_tail, F177_lastAt, F177_runs, F177_firstKnown, F177_watcher, F177_watchedAs, F177_changes, F177_merged, F177_gaveBack, F177_recent, Fn177, At177, Af177, Ar177, nt177, wl177, gp177, gt177, gf177, gr177, gu177⟩ := hR176
 refine o_q T176 (o_f22 m 104 pp start ending (-1 : Int32) kp r155 [(.int r176)]) st176 ?_
 refine o_q T176 (o_f23 m 106 pp start ending (-1 : Int32) kp r155 r176 []) (fun _ k9 => XS.istore X176.here hx rfl (hb hby o_d7_104) rfl (l' := (o_t23 pp start ending (-1 : Int32) kp r155 r176)) rfl k9) ?_
 refine o_q T176 (o_f23 m 108 pp start ending (-1 : Int32) kp r155 r176 [(.int r155)]) (fun _ k9 => XS.iload X176.here hx rfl (hb hby o_d7_106) rfl k9) ?_
 refine o_q T176 (o_f19 m 110 pp start ending (-1 : Int32) kp r155 r176 r155 []) (fun _ k9 => XS.istore X176.here hx rfl (hb hby o_d7_108) rfl (l' := (o_t19 pp start ending (-1 : Int32) kp r155 r176 r155)) rfl k9) ?_
 have hP192 : o_Pr Z n0 pp rc ru wa tm134 fr134 tl176 la176 L2 (ch + (1 : Int64)) gb xs176 fs176 (o_put rs (cn + 1) start ending (0 : Int64)) h176 := ⟨Ep177, Er177, Ew177, F177_cpus, F177_times, F177_free, F177_head, F177_tail, F177_lastAt, F177_runs, F177_firstKnown, F177_watcher, F177_watchedAs, F177_changes, F177_merged, F177_gaveBack, F177_recent, Fn177, At177, Af177, Ar177, nt177, wl177, gp177, gt177, gf177, gr177, gu177⟩
 have n0193 : 1 ≤ tl.toNatClampNeg := by
  have r1 := rng32 tl
  have n0 := o_nat (tl) (by omega)
  omega
 have n1193 : 1 ≤ tl155.toNatClampNeg := by
  have r1 := rng32 tl155
  have n0 := o_nat (tl155) (by omega)
  omega
 have S0193 : o_S lo hi tl.toNatClampNeg xs134 fs134 := o_Sgrow n0193 Sg ra134 rb134
 have x0193 : xs134 0 = xs 0 := ra134 0 (by omega)
 have S1193 := o_Ssplit n0193 S0193 (fun q => by rw [x0193]; exact hz q) pe155 pg155
 have S2193 := o_Ssplit n1193 S1193 (fun q => by rw [pf155, x0193]; exact o_lt3 (hz q) hse) pe176 pg176
 obtain ⟨S3193, U3193⟩ := o_Sinit Dd S2193
 have q194 : 1 ≤ tl176.toInt := by
  have r1 := rng32 tl176
  omega
 have q195 : tl176.toInt ≤ L2.toInt := by
  have r1 := rng32 tl176
  have r2 := rng32 L2
  omega
 have q196 : L2.toInt ≤ 32 := by
  have r1 := rng32 L2
  omega
 have q197 : r176.toInt < tl176.toInt := by
  have r1 := rng32 r176
  have r2 := rng32 tl176
  omega
 have q198 : 0 ≤ r176.toInt := by
  have r1 := rng32 r176
  omega
 have q199 : 0 ≤ r155.toInt := by
  have r1 := rng32 r155
  omega
 have q200 : r155.toInt ≤ 33 := by
  have r1 := rng32 r155
  have r2 := rng32 tl155
  have r3 := rng32 tl176
  omega
 have q201 : 0 ≤ r155.toInt := by
  have r1 := rng32 r155
  omega
 have q202 : r176.toInt - r155.toInt + 40 ≤ (100 : Nat) := by
  have r1 := rng32 r176
  have r2 := rng32 r155
  have r3 := rng32 tl176
  omega
 have GL := o_addG_m1_loop Z a0 hw n0 pp rc ru wa tm134 fr134 tl176 la176 L2 (ch + (1 : Int64)) gb xs176 (o_put rs (cn + 1) start ending (0 : Int64)) kp r155 r176 start ending lo hi lo1 hi1 q194 q195 q196 q197 q198 q199 Dd hx hby hml hZ hown hret hlk 100 r155 fs176 _ _ X176 e176 N_176 hP192 q200 q201 q202 S3193 (fun j _ h => U3193 j h)
 have q203 : tl176.toInt ≤ tl.toInt + 2 := by
  have r1 := rng32 tl155
  have r2 := rng32 tl176
  have r3 := rng32 tl
  omega
 exact o_mono (fun v h Ls ⟨tl', xs', fs', a1, a2, a3, a4, a5, a6, a7⟩ => ⟨tm134, fr134, tl', la176, xs', fs', a1, a2, a3, a4, Int.le_trans a5 q203, by rw [a6, pf176, pf155, x0193], a7⟩) GL
theorem o_vv_p1 (x v : Int32) (lo hi : Int) (bb : lo ≤ x.toInt ∧ x.toInt ≤ hi) (q5 : 0 ≤ lo + (1)) (q6 : hi + (1) ≤ 16) (ev : v = x + (1 : Int32)) : v.toInt = x.toInt + (1) ∧ 0 ≤ v.toInt ∧ v.toInt ≤ 16 := by
 have e1 : (x + (1 : Int32)).toInt = x.toInt + (1) := by
  rw [Jvm.Free.XT.add32 ⟨by rw [show (1 : Int32).toInt = 1 from by decide]; omega, by rw [show (1 : Int32).toInt = 1 from by decide]; omega⟩]; rw [show (1 : Int32).toInt = 1 from by decide]
 rw [ev, e1]
 omega
set_option maxRecDepth 65536 in
set_option maxHeartbeats 40000000 in
theorem o_addN_p1_loop {p : Program} {l : Launch} {e : Env} {s : State} {m : MethodId} {below : List Frame} {meth : Method} {c : Code} (Z : State) (a0 : Array Value) (hw : ∀ d ∈ tables_1, d.before a0 Z = true) (n0 : Nat) (pp rc ru wa tmx frx : Addr) (tlx lax L : Int32) (chx gbx : Int64) (xsx : Nat → Int64) (rsx : Nat → Int64) (kp fst aft : Int32) (start ending : Int64) (lo hi lo1 hi1 : Int) (i1 : 1 ≤ tlx.toInt) (i2 : tlx.toInt ≤ L.toInt) (i3 : L.toInt ≤ 32) (f1 : aft.toInt < tlx.toInt) (f2 : 0 ≤ aft.toInt) (f3 : 0 ≤ fst.toInt) (Dd : o_D lo hi lo1 hi1 (1))
  (hx : p.tables.exec = Jvm.exec) (hby : c.code = o_y12) (hml : c.maxLocals = 10) (hZ : Z.Warmed39 s.vm) (hown : s.vm.findClass o_n1 = some m.cls) (hret : meth.sig.returnType = none) (hlk : meth.locks = false) :
  ∀ (k : Nat) (kk : Int32) (fsc : Nat → Int32) (locs : List Loc) (hh : Heap) {T : State} (X0 : Stand p l e (o_R 5 0 0 100) s m #[(.ref pp), (.long start), (.long ending), (.int (1 : Int32))] below meth c T locs 0 0) (e0 : T.heap = hh), Fr n0 locs → o_Pr Z n0 pp rc ru wa tmx frx tlx lax L chx gbx xsx fsc rsx hh → kk.toInt ≤ 33 → 0 ≤ kk.toInt → aft.toInt - kk.toInt + 40 ≤ (k : Int) → o_S lo1 hi1 tlx.toNatClampNeg xsx fsc → (∀ j, kk.toNatClampNeg ≤ j → j + 1 < tlx.toNatClampNeg → lo ≤ (fsc j).toInt ∧ (fsc j).toInt ≤ hi) → o_G p e below s (fun v h Ls => ∃ (tl' : Int32) (xs' : Nat → Int64) (fs' : Nat → Int32), v = none ∧ Fr n0 Ls ∧ o_Pr Z n0 pp rc ru wa tmx frx tl' lax L chx gbx xs' fs' rsx h ∧ 1 ≤ tl'.toInt ∧ tl'.toInt ≤ tlx.toInt ∧ xs' 0 = xsx 0 ∧ o_S lo1 hi1 tl'.toNatClampNeg xs' fs') 0 0 T (o_f19 m 110 pp start ending (1 : Int32) kp fst aft kk []) := by
 intro k
 induction k with
 | zero => intro kk fsc locs hh T X0 e0 NL hP g1 g0 g2 Sx Uk; exfalso; omega
 | succ k ih =>
 intro kk fsc locs hh T X0 e0 NL hP g1 g0 g2 Sx Uk
 obtain ⟨Ep1, Er1, Ew1, F1_cpus, F1_times, F1_free, F1_head, F1_tail, F1_lastAt, F1_runs, F1_firstKnown, F1_watcher, F1_watchedAs, F1_changes, F1_merged, F1_gaveBack, F1_recent, Fn1, At1, Af1, Ar1, nt1, wl1, gp1, gt1, gf1, gr1, gu1⟩ := hP
 have ne5 : o_ne pp frx := Af1.neExa Ep1 (o_m hw 8 rfl)
 have ne6 : o_ne ru frx := Af1.neExa Er1 (o_m hw 17 rfl)
 have ne14 : o_ne tmx frx := At1.ne Af1 (by intro q; cases q)
 have ne15 : o_ne frx rc := Af1.ne Ar1 (by intro q; cases q)
 refine o_q T (o_f19 m 112 pp start ending (1 : Int32) kp fst aft kk [(.int kk)]) (fun _ k9 => XS.iload X0.here hx rfl (hb hby o_d7_110) rfl k9) ?_
 refine o_q T (o_f19 m 114 pp start ending (1 : Int32) kp fst aft kk [(.int aft), (.int kk)]) (fun _ k9 => XS.iload X0.here hx rfl (hb hby o_d7_112) rfl k9) ?_
 by_cases c0 : kk < aft
 ·refine o_cN X0 hx hby o_d7_114 (tlt c0).2.1 ?_
  refine o_q T (o_f19 m 118 pp start ending (1 : Int32) kp fst aft kk [(.ref pp)]) (fun _ k9 => XS.aloadN X0.here hx rfl (hb hby o_d7_117) rfl rfl k9) ?_
  refine o_gF X0 hx hZ e0 hby hown (o_m hw 46 rfl) F1_free o_d7_118 fun T16 X16 e16 => ?_
  refine o_q T16 (o_f19 m 123 pp start ending (1 : Int32) kp fst aft kk [(.int kk), (.ref frx)]) (fun _ k9 => XS.iload X16.here hx rfl (hb hby o_d7_121) rfl k9) ?_
  refine o_q T16 (o_f19 m 124 pp start ending (1 : Int32) kp fst aft kk [(.int kk), (.ref frx), (.int kk), (.ref frx)]) (fun _ k9 => Jvm.Free.XT.dup2 X16.here hx rfl (hb hby o_d7_123) rfl rfl rfl k9) ?_
  have hin17 : ¬ (kk < (0 : Int32)) ∧ kk < L := by
   have r1 := rng32 kk
   have r2 := rng32 L
   have k3 : (0 : Int32).toInt = 0 := by decide
   have r4 := rng32 aft
   have d0 : kk.toInt < aft.toInt := Int32.lt_iff_toInt_lt.mp c0
   rw [Int32.lt_iff_toInt_lt, Int32.lt_iff_toInt_lt]
   omega
  refine o_dI X16 hx hZ e16 hby Af1 hin17 o_d7_124 ?_
  refine o_q T16 (o_f19 m 127 pp start ending (1 : Int32) kp fst aft kk [(.int (1 : Int32)), (.int (fsc kk.toNatClampNeg)), (.int kk), (.ref frx)]) (fun _ k9 => XS.iload X16.here hx rfl (hb hby o_d7_125) rfl k9) ?_
  refine o_q T16 (o_f19 m 128 pp start ending (1 : Int32) kp fst aft kk [(.int ((fsc kk.toNatClampNeg) + (1 : Int32))), (.int kk), (.ref frx)]) (fun _ k9 => XS.iadd X16.here hx rfl (hb hby o_d7_127) rfl k9) ?_
  have hin18 : ¬ (kk < (0 : Int32)) ∧ kk < L := by
   have r1 := rng32 kk
   have r2 := rng32 L
   have k3 : (0 : Int32).toInt = 0 := by decide
   have r4 := rng32 aft
   have d0 : kk.toInt < aft.toInt := Int32.lt_iff_toInt_lt.mp c0
   rw [Int32.lt_iff_toInt_lt, Int32.lt_iff_toInt_lt]
   omega
  refine o_tI X16 hx hZ e16 hby Af1 hin18 o_d7_128 fun T19 h19 X19 e19 W19 A19 => ?_
  obtain ⟨f19, d_f19⟩ : ∃ z : Nat → Int32, z = (fun i => if i = kk.toNatClampNeg then ((fsc kk.toNatClampNeg) + (1 : Int32)) else fsc i) := ⟨_, rfl⟩
  rw [← d_f19] at A19
  have N_19 := Fr.snoc X19 NL gf1
  have Y20 := Ep1.wr W19
  have Y21 := Er1.wr W19
  have Y22 := Ew1.wr W19
  have Y23 := F1_cpus.other W19 (Or.inl ne5)
  have Y24 := F1_times.other W19 (Or.inl ne5)
  have Y25 := F1_free.other W19 (Or.inl ne5)
  have Y26 := F1_head.other W19 (Or.inl ne5)
  have Y27 := F1_tail.other W19 (Or.inl ne5)
  have Y28 := F1_lastAt.other W19 (Or.inl ne5)
  have Y29 := F1_runs.other W19 (Or.inl ne5)
  have Y30 := F1_firstKnown.other W19 (Or.inl ne5)
  have Y31 := F1_watcher.other W19 (Or.inl ne5)
  have Y32 := F1_watchedAs.other W19 (Or.inl ne5)
  have Y33 := F1_changes.other W19 (Or.inl ne5)
  have Y34 := F1_merged.other W19 (Or.inl ne5)
  have Y35 := F1_gaveBack.other W19 (Or.inl ne5)
  have Y36 := F1_recent.other W19 (Or.inl ne5)
  have Y37 := Fn1.other W19 (Or.inl ne6)
  have Y38 := At1.other W19 ne14
  have Y40 := Ar1.other W19 (Ne.symm ne15)
  refine o_q T19 (o_f19 m 130 pp start ending (1 : Int32) kp fst aft kk [(.ref pp)]) (fun _ k9 => XS.aloadN X19.here hx rfl (hb hby o_d7_129) rfl rfl k9) ?_
  refine o_q T19 (o_f19 m 131 pp start ending (1 : Int32) kp fst aft kk [(.ref pp), (.ref pp)]) (fun _ k9 => XS.aloadN X19.here hx rfl (hb hby o_d7_130) rfl rfl k9) ?_
  refine o_gF X19 hx hZ e19 hby hown (o_m hw 46 rfl) Y25 o_d7_131 fun T41 X41 e41 => ?_
  refine o_q T41 (o_f19 m 136 pp start ending (1 : Int32) kp fst aft kk [(.int kk), (.ref frx), (.ref pp)]) (fun _ k9 => XS.iload X41.here hx rfl (hb hby o_d7_134) rfl k9) ?_
  have hin42 : ¬ (kk < (0 : Int32)) ∧ kk < L := by
   have r1 := rng32 kk
   have r2 := rng32 L
   have k3 : (0 : Int32).toInt = 0 := by decide
   have r4 := rng32 aft
   have d0 : kk.toInt < aft.toInt := Int32.lt_iff_toInt_lt.mp c0
   rw [Int32.lt_iff_toInt_lt, Int32.lt_iff_toInt_lt]
   omega
  refine o_dI X41 hx hZ e41 hby A19 hin42 o_d7_136 ?_
  refine o_q T41 (o_f19 m 138 pp start ending (1 : Int32) kp fst aft kk [(.ref pp), (.int (f19 kk.toNatClampNeg)), (.ref pp)]) (fun _ k9 => XS.aloadN X41.here hx rfl (hb hby o_d7_137) rfl rfl k9) ?_
  refine o_gF X41 hx hZ e41 hby hown (o_m hw 43 rfl) Y24 o_d7_138 fun T43 X43 e43 => ?_
  refine o_q T43 (o_f19 m 143 pp start ending (1 : Int32) kp fst aft kk [(.int kk), (.ref tmx), (.int (f19 kk.toNatClampNeg)), (.ref pp)]) (fun _ k9 => XS.iload X43.here hx rfl (hb hby o_d7_141) rfl k9) ?_
  have hin44 : ¬ (kk < (0 : Int32)) ∧ kk < L := by
   have r1 := rng32 kk
   have r2 := rng32 L
   have k3 : (0 : Int32).toInt = 0 := by decide
   have r4 := rng32 aft
   have d0 : kk.toInt < aft.toInt := Int32.lt_iff_toInt_lt.mp c0
   rw [Int32.lt_iff_toInt_lt, Int32.lt_iff_toInt_lt]
   omega
  refine o_dJ X43 hx hZ e43 hby Y38 hin44 o_d7_143 ?_
  have ev45 : (f19 kk.toNatClampNeg) = fsc kk.toNatClampNeg + (1 : Int32) := by rw [d_f19]; dsimp only; rw [if_pos rfl]
  have kn45 : kk.toNatClampNeg + 1 < tlx.toNatClampNeg := by
   have r1 := rng32 kk
   have r2 := rng32 aft
   have r3 := rng32 tlx
   have d0 : kk.toInt < aft.toInt := Int32.lt_iff_toInt_lt.mp c0
   have n0 := o_nat (kk) (by omega)
   have n1 := o_nat (tlx) (by omega)
   omega
  have bb45 := Uk _ (Nat.le_refl _) kn45
  have Dq45 := Dd
  obtain ⟨-, -, -, -, q5, q6, -, -⟩ := Dq45
  have vv45 := o_vv_p1 _ _ lo hi bb45 q5 q6 ev45
  obtain ⟨v46, T46, L46, hQ46, X46, st46⟩ := o_callP X43 hx hZ e43 hown (o_m hw 107 rfl) (o_m hw 108 rfl) (o_m hw 8 rfl) (o_m hw 109 rfl) (by decide) (a := pp) Y20 (o_m hw 110 rfl) (o_m hw 9 rfl) (o_k14_6 l Z a0 hw pp (f19 kk.toNatClampNeg) (xsx kk.toNatClampNeg) h19 (o_nlt0 vv45.2.1) Y23 (o_nlt16 vv45.2.2)) (g := (o_f19 m 144 pp start ending (1 : Int32) kp fst aft kk [(.long (xsx kk.toNatClampNeg)), (.int (f19 kk.toNatClampNeg)), (.ref pp)])) rfl (by rw [hml]; rfl) rfl (argsL := [(.int (f19 kk.toNatClampNeg)), (.long (xsx kk.toNatClampNeg))]) (rest := []) rfl (lenOf o_pd7 rfl) rfl (hb hby o_d7_144) (o_b rfl) (o_b rfl) (o_b rfl) (o_b rfl)
  obtain ⟨rfl, rfl, e46⟩ := hQ46
  rw [List.append_nil] at X46
  refine o_q T46 (o_f19 m 147 pp start ending (1 : Int32) kp fst aft kk []) st46 ?_
  refine o_q T46 (o_f19 m 150 pp start ending (1 : Int32) kp fst aft (kk + (1 : Int32)) []) (fun _ k9 => XS.iinc X46.here hx rfl (hb hby o_d7_147) rfl (l' := (o_t19 pp start ending (1 : Int32) kp fst aft (kk + (1 : Int32)))) rfl k9) ?_
  refine o_go 110 X46 hx hby o_d7_150 ?_
  have hP47 : o_Pr Z n0 pp rc ru wa tmx frx tlx lax L chx gbx xsx f19 rsx h19 := ⟨Y20, Y21, Y22, Y23, Y24, Y25, Y26, Y27, Y28, Y29, Y30, Y31, Y32, Y33, Y34, Y35, Y36, Y37, Y38, A19, Y40, nt1, wl1, gp1, gt1, gf1, gr1, gu1⟩
  have q49 : ((kk + (1 : Int32))).toInt ≤ 33 := by
   have r1 := rng32 kk
   have k2 : (1 : Int32).toInt = 1 := by decide
   have e3 : ((kk + (1 : Int32))).toInt = kk.toInt + 1 := by
    rw [Jvm.Free.XT.add32 ⟨by rw [show (1 : Int32).toInt = 1 from by decide]; omega, by rw [show (1 : Int32).toInt = 1 from by decide]; omega⟩]; rw [show (1 : Int32).toInt = 1 from by decide]
   have r4 := rng32 aft
   have r5 := rng32 tlx
   have d0 : kk.toInt < aft.toInt := Int32.lt_iff_toInt_lt.mp c0
   omega
  have q50 : 0 ≤ ((kk + (1 : Int32))).toInt := by
   have r1 := rng32 kk
   have k2 : (1 : Int32).toInt = 1 := by decide
   have e3 : ((kk + (1 : Int32))).toInt = kk.toInt + 1 := by
    rw [Jvm.Free.XT.add32 ⟨by rw [show (1 : Int32).toInt = 1 from by decide]; omega, by rw [show (1 : Int32).toInt = 1 from by decide]; omega⟩]; rw [show (1 : Int32).toInt = 1 from by decide]
   have r4 := rng32 aft
   have r5 := rng32 tlx
   have d0 : kk.toInt < aft.toInt := Int32.lt_iff_toInt_lt.mp c0
   omega
  have q51 : aft.toInt - ((kk + (1 : Int32))).toInt + 40 ≤ (k : Int) := by
   have r1 := rng32 kk
   have k2 : (1 : Int32).toInt = 1 := by decide
   have e3 : ((kk + (1 : Int32))).toInt = kk.toInt + 1 := by
    rw [Jvm.Free.XT.add32 ⟨by rw [show (1 : Int32).toInt = 1 from by decide]; omega, by rw [show (1 : Int32).toInt = 1 from by decide]; omega⟩]; rw [show (1 : Int32).toInt = 1 from by decide]
   have r4 := rng32 aft
   have d0 : kk.toInt < aft.toInt := Int32.lt_iff_toInt_lt.mp c0
   omega
  have kz48 : ((kk + (1 : Int32))).toNatClampNeg = kk.toNatClampNeg + 1 := by
   have r1 := rng32 kk
   have k2 : (1 : Int32).toInt = 1 := by decide
   have e3 : ((kk + (1 : Int32))).toInt = kk.toInt + 1 := by
    rw [Jvm.Free.XT.add32 ⟨by rw [show (1 : Int32).toInt = 1 from by decide]; omega, by rw [show (1 : Int32).toInt = 1 from by decide]; omega⟩]; rw [show (1 : Int32).toInt = 1 from by decide]
   have r4 := rng32 aft
   have r5 := rng32 tlx
   have d0 : kk.toInt < aft.toInt := Int32.lt_iff_toInt_lt.mp c0
   have n0 := o_nat (kk) (by omega)
   have n1 := o_nat ((kk + (1 : Int32))) (by omega)
   omega
  obtain ⟨S248, U248⟩ := o_Sstep Dd kn45 Sx Uk vv45.1 (fun i hi => by rw [d_f19]; dsimp only; rw [if_neg hi])
  exact ih (kk + (1 : Int32)) f19 _ _ X46 e46 N_19 hP47 q49 q50 q51 S248 (by rw [kz48]; exact U248)
 ·refine o_cY 153 X0 hx hby o_d7_114 (flt c0).2.1 ?_
  refine o_q T (o_f19 m 154 pp start ending (1 : Int32) kp fst aft kk [(.ref pp)]) (fun _ k9 => XS.aloadN X0.here hx rfl (hb hby o_d7_153) rfl rfl k9) ?_
  refine o_gF X0 hx hZ e0 hby hown (o_m hw 25 rfl) F1_runs o_d7_154 fun T52 X52 e52 => ?_
  refine o_q T52 (o_f19 m 159 pp start ending (1 : Int32) kp fst aft kk [(.int fst), (.ref ru)]) (fun _ k9 => XS.iload X52.here hx rfl (hb hby o_d7_157) rfl k9) ?_
  refine o_q T52 (o_f19 m 161 pp start ending (1 : Int32) kp fst aft kk [(.int aft), (.int fst), (.ref ru)]) (fun _ k9 => XS.iload X52.here hx rfl (hb hby o_d7_159) rfl k9) ?_
  obtain ⟨v53, T53, L53, hQ53, X53, st53⟩ := o_callV X52 hx hZ e52 hown (o_m hw 111 rfl) (o_m hw 112 rfl) (o_m hw 114 rfl) (o_m hw 113 rfl) (by decide) (b := ru) Er1 (o_m hw 115 rfl) (o_m hw 18 rfl) (o_k15_7 l Z a0 hw ru fst aft hh Fn1) (g := (o_f19 m 161 pp start ending (1 : Int32) kp fst aft kk [(.int aft), (.int fst), (.ref ru)])) rfl (by rw [hml]; rfl) rfl (argsL := [(.int fst), (.int aft)]) (rest := []) rfl (lenOf o_pd5 rfl) rfl (hb hby o_d7_161) (o_b rfl) (o_b rfl) (o_b rfl) (o_b rfl)
  obtain ⟨rfl, rfl, e53⟩ := hQ53
  rw [List.append_nil] at X53
  refine o_q T53 (o_f19 m 164 pp start ending (1 : Int32) kp fst aft kk []) st53 ?_
  refine o_q T53 (o_f19 m 165 pp start ending (1 : Int32) kp fst aft kk [(.ref pp)]) (fun _ k9 => XS.aloadN X53.here hx rfl (hb hby o_d7_164) rfl rfl k9) ?_
  refine o_q T53 (o_f19 m 167 pp start ending (1 : Int32) kp fst aft kk [(.int aft), (.ref pp)]) (fun _ k9 => XS.iload X53.here hx rfl (hb hby o_d7_165) rfl k9) ?_
  have q54 : 1 ≤ tlx.toInt := by
   have r1 := rng32 tlx
   have r2 := rng32 kk
   have r3 := rng32 aft
   have d0 : ¬ (kk.toInt < aft.toInt) := mt Int32.lt_iff_toInt_lt.mpr c0
   omega
  have q55 : tlx.toInt ≤ L.toInt := by
   have r1 := rng32 tlx
   have r2 := rng32 L
   have r3 := rng32 kk
   have r4 := rng32 aft
   have d0 : ¬ (kk.toInt < aft.toInt) := mt Int32.lt_iff_toInt_lt.mpr c0
   omega
  have q56 : L.toInt ≤ 32 := by
   have r1 := rng32 L
   have r2 := rng32 kk
   have r3 := rng32 aft
   have d0 : ¬ (kk.toInt < aft.toInt) := mt Int32.lt_iff_toInt_lt.mpr c0
   omega
  have q57 : 0 ≤ aft.toInt := by
   have r1 := rng32 aft
   have r2 := rng32 kk
   have d0 : ¬ (kk.toInt < aft.toInt) := mt Int32.lt_iff_toInt_lt.mpr c0
   omega
  have hP58 : o_Pr Z n0 pp rc ru wa tmx frx tlx lax L chx gbx xsx fsc rsx hh := ⟨Ep1, Er1, Ew1, F1_cpus, F1_times, F1_free, F1_head, F1_tail, F1_lastAt, F1_runs, F1_firstKnown, F1_watcher, F1_watchedAs, F1_changes, F1_merged, F1_gaveBack, F1_recent, Fn1, At1, Af1, Ar1, nt1, wl1, gp1, gt1, gf1, gr1, gu1⟩
  obtain ⟨v59, T59, L59, hQ59, X59, st59⟩ := o_callP X53 hx hZ e53 hown (o_m hw 116 rfl) (o_m hw 117 rfl) (o_m hw 8 rfl) (o_m hw 118 rfl) (by decide) (a := pp) Ep1 (o_m hw 119 rfl) (o_m hw 9 rfl) (o_merge l Z a0 hw n0 pp rc ru wa tmx frx tlx lax L chx gbx xsx fsc rsx aft hh hP58 q54 q55 q56 q57) (g := (o_f19 m 167 pp start ending (1 : Int32) kp fst aft kk [(.int aft), (.ref pp)])) rfl (by rw [hml]; rfl) rfl (argsL := [(.int aft)]) (rest := []) rfl (lenOf o_pd3 rfl) rfl (hb hby o_d7_167) (o_b rfl) (o_b rfl) (o_b rfl) (o_b rfl)
  obtain ⟨h59, e59⟩ : ∃ z, T59.heap = z := ⟨_, rfl⟩
  rw [e59] at hQ59
  obtain ⟨tl59, xs59, fs59, rfl, N59, hR59, ma59, mb59, mc59, md59, me59⟩ := hQ59
  have N_59 := Fr.app NL N59
  obtain ⟨Ep60, Er60, Ew60, F60_cpus, F60_times, F60_free, F60_head, F60_tail, F60_lastAt, F60_runs, F60_firstKnown, F60_watcher, F60_watchedAs, F60_changes, F60_merged, F60_gaveBack, F60_recent, Fn60, At60, Af60, Ar60, nt60, wl60, gp60, gt60, gf60, gr60, gu60⟩ := hR59
  refine o_q T59 (o_f19 m 170 pp start ending (1 : Int32) kp fst aft kk []) st59 ?_
  refine o_q T59 (o_f19 m 171 pp start ending (1 : Int32) kp fst aft kk [(.ref pp)]) (fun _ k9 => XS.aloadN X59.here hx rfl (hb hby o_d7_170) rfl rfl k9) ?_
  refine o_q T59 (o_f19 m 173 pp start ending (1 : Int32) kp fst aft kk [(.int fst), (.ref pp)]) (fun _ k9 => XS.iload X59.here hx rfl (hb hby o_d7_171) rfl k9) ?_
  have q75 : 1 ≤ tl59.toInt := by
   have r1 := rng32 tl59
   have r2 := rng32 kk
   have r3 := rng32 aft
   have d0 : ¬ (kk.toInt < aft.toInt) := mt Int32.lt_iff_toInt_lt.mpr c0
   omega
  have q76 : tl59.toInt ≤ L.toInt := by
   have r1 := rng32 tl59
   have r2 := rng32 L
   have r3 := rng32 kk
   have r4 := rng32 aft
   have d0 : ¬ (kk.toInt < aft.toInt) := mt Int32.lt_iff_toInt_lt.mpr c0
   omega
  have q77 : L.toInt ≤ 32 := by
   have r1 := rng32 L
   have r2 := rng32 kk
   have r3 := rng32 aft
   have d0 : ¬ (kk.toInt < aft.toInt) := mt Int32.lt_iff_toInt_lt.mpr c0
   omega
  have q78 : 0 ≤ fst.toInt := by
   have r1 := rng32 fst
   have r2 := rng32 kk
   have r3 := rng32 aft
   have d0 : ¬ (kk.toInt < aft.toInt) := mt Int32.lt_iff_toInt_lt.mpr c0
   omega
  have hP79 : o_Pr Z n0 pp rc ru wa tmx frx tl59 lax L chx gbx xs59 fs59 rsx h59 := ⟨Ep60, Er60, Ew60, F60_cpus, F60_times, F60_free, F60_head, F60_tail, F60_lastAt, F60_runs, F60_firstKnown, F60_watcher, F60_watchedAs, F60_changes, F60_merged, F60_gaveBack, F60_recent, Fn60, At60, Af60, Ar60, nt60, wl60, gp60, gt60, gf60, gr60, gu60⟩
  obtain ⟨v80, T80, L80, hQ80, X80, st80⟩ := o_callP X59 hx hZ e59 hown (o_m hw 116 rfl) (o_m hw 117 rfl) (o_m hw 8 rfl) (o_m hw 118 rfl) (by decide) (a := pp) Ep60 (o_m hw 119 rfl) (o_m hw 9 rfl) (o_merge l Z a0 hw n0 pp rc ru wa tmx frx tl59 lax L chx gbx xs59 fs59 rsx fst h59 hP79 q75 q76 q77 q78) (g := (o_f19 m 173 pp start ending (1 : Int32) kp fst aft kk [(.int fst), (.ref pp)])) rfl (by rw [hml]; rfl) rfl (argsL := [(.int fst)]) (rest := []) rfl (lenOf o_pd3 rfl) rfl (hb hby o_d7_173) (o_b rfl) (o_b rfl) (o_b rfl) (o_b rfl)
  obtain ⟨h80, e80⟩ : ∃ z, T80.heap = z := ⟨_, rfl⟩
  rw [e80] at hQ80
  obtain ⟨tl80, xs80, fs80, rfl, N80, hR80, ma80, mb80, mc80, md80, me80⟩ := hQ80
  have N_80 := Fr.app N_59 N80
  obtain ⟨Ep81, Er81, Ew81, F81_cpus, F81_times, F81_free, F81_head, F81_tail, F81_lastAt, F81_runs, F81_firstKnown, F81_watcher, F81_watchedAs, F81_changes, F81_merged, F81_gaveBack, F81_recent, Fn81, At81, Af81, Ar81, nt81, wl81, gp81, gt81, gf81, gr81, gu81⟩ := hR80
  refine o_q T80 (o_f19 m 176 pp start ending (1 : Int32) kp fst aft kk []) st80 ?_
  have hP96 : o_Pr Z n0 pp rc ru wa tmx frx tl80 lax L chx gbx xs80 fs80 rsx h80 := ⟨Ep81, Er81, Ew81, F81_cpus, F81_times, F81_free, F81_head, F81_tail, F81_lastAt, F81_runs, F81_firstKnown, F81_watcher, F81_watchedAs, F81_changes, F81_merged, F81_gaveBack, F81_recent, Fn81, At81, Af81, Ar81, nt81, wl81, gp81, gt81, gf81, gr81, gu81⟩
  have n197 : 1 ≤ tlx.toNatClampNeg := by
   have r1 := rng32 tlx
   have r2 := rng32 kk
   have r3 := rng32 aft
   have d0 : ¬ (kk.toInt < aft.toInt) := mt Int32.lt_iff_toInt_lt.mpr c0
   have n0 := o_nat (tlx) (by omega)
   omega
  have n297 : 1 ≤ tl59.toNatClampNeg := by
   have r1 := rng32 tl59
   have r2 := rng32 kk
   have r3 := rng32 aft
   have d0 : ¬ (kk.toInt < aft.toInt) := mt Int32.lt_iff_toInt_lt.mpr c0
   have n0 := o_nat (tl59) (by omega)
   omega
  have q98 : 1 ≤ tl80.toInt := by
   have r1 := rng32 tl80
   have r2 := rng32 kk
   have r3 := rng32 aft
   have d0 : ¬ (kk.toInt < aft.toInt) := mt Int32.lt_iff_toInt_lt.mpr c0
   omega
  have q99 : tl80.toInt ≤ tlx.toInt := by
   have r1 := rng32 tl80
   have r2 := rng32 tlx
   have r3 := rng32 kk
   have r4 := rng32 aft
   have d0 : ¬ (kk.toInt < aft.toInt) := mt Int32.lt_iff_toInt_lt.mpr c0
   omega
  refine o_retV X80 hx hlk hret (hb hby o_d7_176) ?_ (o_b rfl) (o_b rfl)
  rw [e80]
  exact ⟨tl80, xs80, fs80, rfl, N_80, hP96, q98, q99, (md80.trans md59), (o_Smerge n297 (o_Smerge n197 Sx mc59 me59) mc80 me80)⟩
theorem o_d7_62 : decode o_y12 62 = .ok (.lconst 1, 1) := by decide +kernel
theorem o_d7_63 : decode o_y12 63 = .ok (.goto 4, 3) := by decide +kernel
theorem o_d7_73 : decode o_y12 73 = .ok (.aload_n 0, 1) := by decide +kernel
theorem o_d7_74 : decode o_y12 74 = .ok (.aload_n 0, 1) := by decide +kernel
theorem o_d7_75 : decode o_y12 75 = .ok (.getfield 156, 3) := by decide +kernel
theorem o_d7_78 : decode o_y12 78 = .ok (.putfield 163, 3) := by decide +kernel
set_option maxRecDepth 65536 in
set_option maxHeartbeats 40000000 in
theorem o_addN_p1 (l : Launch) (Z : State) (a0 : Array Value) (hw : ∀ d ∈ tables_1, d.before a0 Z = true) (n0 : Nat) (pp rc ru wa tm fr : Addr) (tl la L : Int32) (ch gb : Int64) (xs : Nat → Int64) (fs : Nat → Int32) (rs : Nat → Int64) (start ending : Int64) (cn : Nat) (lo hi lo1 hi1 : Int) (h0 : Heap) (hP : o_Pr Z n0 pp rc ru wa tm fr tl la L ch gb xs fs rs h0) (i1 : 1 ≤ tl.toInt) (i2 : tl.toInt ≤ L.toInt) (i3 : L.toInt ≤ 32) (i4 : tl.toInt + 2 ≤ L.toInt) (hse : start < ending) (hc : ch.toInt = (cn : Int)) (hc2 : cn ≤ 100) (Dd : o_D lo hi lo1 hi1 (1)) (Sg : o_S lo hi tl.toNatClampNeg xs fs) (hz : hi ≤ 15 → ¬ start < xs 0) :
  o_C l (⟨o_n1, "add", "(JJI)V"⟩ : MethodName) o_y12 10 none (o_R 5 0 0 100) Z h0 #[(.ref pp), (.long start), (.long ending), (.int (1 : Int32))] (fun v h Ls => ∃ (tm' fr' : Addr) (tl' la' : Int32) (xs' : Nat → Int64) (fs' : Nat → Int32), v = none ∧ Fr n0 Ls ∧ o_Pr Z n0 pp rc ru wa tm' fr' tl' la' L (ch + (1 : Int64)) (ch + (1 : Int64)) xs' fs' (o_put rs (cn + 1) start ending (1 : Int64)) h ∧ 1 ≤ tl'.toInt ∧ tl'.toInt ≤ tl.toInt + 2 ∧ xs' 0 = xs 0 ∧ o_S lo1 hi1 tl'.toNatClampNeg xs' fs') := by
 refine o_body o_pn7 ?_
 intro p e s m below meth c s₁ hx hby hml hZ hown hnm hret hlk X0 e0
 refine o_cast (f' := (o_f20 m 0 pp start ending (1 : Int32) [])) (by first | (simp [entryFrame, mkF, argsToLocals, Value.category, maxLocals]; done) | rfl) ?_
 obtain ⟨Ep1, Er1, Ew1, F1_cpus, F1_times, F1_free, F1_head, F1_tail, F1_lastAt, F1_runs, F1_firstKnown, F1_watcher, F1_watchedAs, F1_changes, F1_merged, F1_gaveBack, F1_recent, Fn1, At1, Af1, Ar1, nt1, wl1, gp1, gt1, gf1, gr1, gu1⟩ := hP
 refine o_q s₁ (o_f20 m 1 pp start ending (1 : Int32) [(.long start)]) (fun _ k9 => XS.lloadN X0.here hx rfl (hb hby o_d7_0) rfl k9) ?_
 refine o_q s₁ (o_f20 m 2 pp start ending (1 : Int32) [(.long ending), (.long start)]) (fun _ k9 => XS.lloadN X0.here hx rfl (hb hby o_d7_1) rfl k9) ?_
 refine o_q s₁ (o_f20 m 3 pp start ending (1 : Int32) [(.int (lcmpW start ending))]) (fun _ k9 => XS.lcmp X0.here hx rfl (hb hby o_d7_2) rfl k9) ?_
 refine o_fY 7 X0 hx hby o_d7_3 ((if0 _ _).trans (tlt ((lw_lt _ _).mpr hse)).1) ?_
 refine o_q s₁ (o_f20 m 8 pp start ending (1 : Int32) [(.ref pp)]) (fun _ k9 => XS.aloadN X0.here hx rfl (hb hby o_d7_7) rfl rfl k9) ?_
 have hP16 : o_Pr Z n0 pp rc ru wa tm fr tl la L ch gb xs fs rs h0 := ⟨Ep1, Er1, Ew1, F1_cpus, F1_times, F1_free, F1_head, F1_tail, F1_lastAt, F1_runs, F1_firstKnown, F1_watcher, F1_watchedAs, F1_changes, F1_merged, F1_gaveBack, F1_recent, Fn1, At1, Af1, Ar1, nt1, wl1, gp1, gt1, gf1, gr1, gu1⟩
 obtain ⟨v17, T17, L17, hQ17, X17, st17⟩ := o_callP X0 hx hZ e0 hown (o_m hw 61 rfl) (o_m hw 62 rfl) (o_m hw 8 rfl) (o_m hw 63 rfl) (by decide) (a := pp) Ep1 (o_m hw 64 rfl) (o_m hw 9 rfl) (o_counts l Z a0 hw n0 pp rc ru wa tm fr tl la L ch gb xs fs rs  h0 hP16 ) (g := (o_f20 m 8 pp start ending (1 : Int32) [(.ref pp)])) rfl (by rw [hml]; rfl) rfl (argsL := []) (rest := []) rfl (lenOf o_pd0 rfl) rfl (hb hby o_d7_8) (o_b rfl) (o_b rfl) (o_b rfl) (o_b rfl)
 obtain ⟨h17, e17⟩ : ∃ z, T17.heap = z := ⟨_, rfl⟩
 rw [e17] at hQ17
 obtain ⟨rfl, N17, hR17⟩ := hQ17
 have N_17 := Fr.app (Fr.nil _) N17
 obtain ⟨Ep18, Er18, Ew18, F18_cpus, F18_times, F18_free, F18_head, F18_tail, F18_lastAt, F18_runs, F18_firstKnown, F18_watcher, F18_watchedAs, F18_changes, F18_merged, F18_gaveBack, F18_recent, Fn18, At18, Af18, Ar18, nt18, wl18, gp18, gt18, gf18, gr18, gu18⟩ := hR17
 have ne19 : o_ne pp ru := Ep18.ne Er18 (by decide)
 have ne20 : o_ne pp tm := At18.neExa Ep18 (o_m hw 8 rfl)
 have ne22 : o_ne pp fr := Af18.neExa Ep18 (o_m hw 8 rfl)
 have ne24 : o_ne pp rc := Ar18.neExa Ep18 (o_m hw 8 rfl)
 have ne25 : o_ne ru rc := Ar18.neExa Er18 (o_m hw 17 rfl)
 have ne32 : o_ne fr rc := Af18.ne Ar18 (by intro q; cases q)
 refine o_q T17 (o_f20 m 11 pp start ending (1 : Int32) []) st17 ?_
 refine o_iC (3 : Int32) X17 hx hby o_d7_11 rfl ?_
 refine o_q T17 (o_f20 m 13 pp start ending (1 : Int32) [(.ref pp), (.int (3 : Int32))]) (fun _ k9 => XS.aloadN X17.here hx rfl (hb hby o_d7_12) rfl rfl k9) ?_
 refine o_q T17 (o_f20 m 14 pp start ending (1 : Int32) [(.ref pp), (.ref pp), (.int (3 : Int32))]) (fun _ k9 => XS.dup X17.here hx rfl (hb hby o_d7_13) rfl rfl k9) ?_
 refine o_gF X17 hx hZ e17 hby hown (o_m hw 79 rfl) F18_changes o_d7_14 fun T33 X33 e33 => ?_
 refine o_lC (1 : Int64) X33 hx hby o_d7_17 rfl ?_
 refine o_q T33 (o_f20 m 19 pp start ending (1 : Int32) [(.long (ch + (1 : Int64))), (.ref pp), (.int (3 : Int32))]) (fun _ k9 => XS.ladd X33.here hx rfl (hb hby o_d7_18) rfl k9) ?_
 refine o_q T33 (o_f20 m 20 pp start ending (1 : Int32) [(.long (ch + (1 : Int64))), (.ref pp), (.long (ch + (1 : Int64))), (.int (3 : Int32))]) (fun _ k9 => by jvm_step X33.here [X33.here.top, hx, (hb hby o_d7_19), Value.category]; exact k9) ?_
 refine o_pF X33 hx hZ e33 hby (ty := .long) hown (o_m hw 79 rfl) F18_changes Ep18 (Or.inl (o_m hw 80 rfl)) (o_m hw 8 rfl) (by decide) rfl rfl o_d7_20 fun T34 h34 X34 e34 W34 => ?_
 have Fw34 := F18_changes.same W34
 have N_34 := Fr.snoc X34 N_17 gp18
 have Y35 := Ep18.wr W34
 have Y36 := Er18.wr W34
 have Y37 := Ew18.wr W34
 have Y38 := F18_cpus.other W34 (o_sn (Or.inr (o_m hw 41 rfl)) (Or.inl (o_m hw 80 rfl)))
 have Y39 := F18_times.other W34 (o_sn (Or.inl (o_m hw 44 rfl)) (Or.inl (o_m hw 80 rfl)))
 have Y40 := F18_free.other W34 (o_sn (Or.inl (o_m hw 47 rfl)) (Or.inl (o_m hw 80 rfl)))
 have Y41 := F18_head.other W34 (o_sn (Or.inl (o_m hw 95 rfl)) (Or.inl (o_m hw 80 rfl)))
 have Y42 := F18_tail.other W34 (o_sn (Or.inl (o_m hw 49 rfl)) (Or.inl (o_m hw 80 rfl)))
 have Y43 := F18_lastAt.other W34 (o_sn (Or.inl (o_m hw 149 rfl)) (Or.inl (o_m hw 80 rfl)))
 have Y44 := F18_runs.other W34 (o_sn (Or.inr (o_m hw 26 rfl)) (Or.inl (o_m hw 80 rfl)))
 have Y45 := F18_firstKnown.other W34 (o_sn (Or.inl (o_m hw 66 rfl)) (Or.inl (o_m hw 80 rfl)))
 have Y46 := F18_watcher.other W34 (o_sn (Or.inl (o_m hw 39 rfl)) (Or.inl (o_m hw 80 rfl)))
 have Y47 := F18_watchedAs.other W34 (o_sn (Or.inl (o_m hw 68 rfl)) (Or.inl (o_m hw 80 rfl)))
 have Y49 := F18_merged.other W34 (o_sn (Or.inl (o_m hw 177 rfl)) (Or.inl (o_m hw 80 rfl)))
 have Y50 := F18_gaveBack.other W34 (o_sn (Or.inl (o_m hw 179 rfl)) (Or.inl (o_m hw 80 rfl)))
 have Y51 := F18_recent.other W34 (o_sn (Or.inr (o_m hw 35 rfl)) (Or.inl (o_m hw 80 rfl)))
 have Y52 := Fn18.other W34 (Or.inl (Ne.symm ne19))
 have Y53 := At18.other W34 (Ne.symm ne20)
 have Y54 := Af18.other W34 (Ne.symm ne22)
 have Y55 := Ar18.other W34 (Ne.symm ne24)
 refine o_q T34 (o_f20 m 26 pp start ending (1 : Int32) [(.long (8 : Int64)), (.long (ch + (1 : Int64))), (.int (3 : Int32))]) (fun _ k9 => X34.ldc2Long hx hown (mvT hZ (o_m hw 81 rfl)) (g := (o_f20 m 23 pp start ending (1 : Int32) [(.long (ch + (1 : Int64))), (.int (3 : Int32))])) rfl (hb hby o_d7_23) _ k9) ?_
 refine o_q T34 (o_f20 m 27 pp start ending (1 : Int32) [(.long ((ch + (1 : Int64)) - ((ch + (1 : Int64)) / (8 : Int64)) * (8 : Int64))), (.int (3 : Int32))]) (fun _ k9 => XS.lrem X34.here hx rfl (hb hby o_d7_26) rfl (by decide) k9) ?_
 refine o_q T34 (o_f20 m 28 pp start ending (1 : Int32) [(.int (((ch + (1 : Int64)) - ((ch + (1 : Int64)) / (8 : Int64)) * (8 : Int64))).toInt32), (.int (3 : Int32))]) (fun _ k9 => XS.l2i X34.here hx rfl (hb hby o_d7_27) rfl k9) ?_
 refine o_q T34 (o_f20 m 29 pp start ending (1 : Int32) [(.int ((3 : Int32) * (((ch + (1 : Int64)) - ((ch + (1 : Int64)) / (8 : Int64)) * (8 : Int64))).toInt32))]) (fun _ k9 => XS.imul X34.here hx rfl (hb hby o_d7_28) rfl k9) ?_
 obtain ⟨kp, h_kp⟩ : ∃ z, z = ((3 : Int32) * (((ch + (1 : Int64)) - ((ch + (1 : Int64)) / (8 : Int64)) * (8 : Int64))).toInt32) := ⟨_, rfl⟩
 rw [← h_kp]
 obtain ⟨q8, hq8⟩ : ∃ z, z = (cn + 1) % 8 := ⟨_, rfl⟩
 have hk8 : q8 < 8 := hq8 ▸ Nat.mod_lt _ (by decide)
 have hkp : kp.toInt = 3 * (q8 : Int) := by rw [h_kp, o_kept ch cn hc hc2, ← hq8]; rfl
 refine o_q T34 (o_f21 m 31 pp start ending (1 : Int32) kp []) (fun _ k9 => XS.istore X34.here hx rfl (hb hby o_d7_29) rfl (l' := (o_t21 pp start ending (1 : Int32) kp)) rfl k9) ?_
 refine o_q T34 (o_f21 m 32 pp start ending (1 : Int32) kp [(.ref pp)]) (fun _ k9 => XS.aloadN X34.here hx rfl (hb hby o_d7_31) rfl rfl k9) ?_
 refine o_gF X34 hx hZ e34 hby hown (o_m hw 34 rfl) Y51 o_d7_32 fun T56 X56 e56 => ?_
 refine o_q T56 (o_f21 m 37 pp start ending (1 : Int32) kp [(.int kp), (.ref rc)]) (fun _ k9 => XS.iload X56.here hx rfl (hb hby o_d7_35) rfl k9) ?_
 refine o_q T56 (o_f21 m 38 pp start ending (1 : Int32) kp [(.long start), (.int kp), (.ref rc)]) (fun _ k9 => XS.lloadN X56.here hx rfl (hb hby o_d7_37) rfl k9) ?_
 have hin57 : ¬ (kp < (0 : Int32)) ∧ kp < (24 : Int32) := by
  have r1 := rng32 kp
  have k2 : (24 : Int32).toInt = 24 := by decide
  have k3 : (0 : Int32).toInt = 0 := by decide
  rw [Int32.lt_iff_toInt_lt, Int32.lt_iff_toInt_lt]
  omega
 refine o_tJ X56 hx hZ e56 hby Y55 hin57 o_d7_38 fun T58 h58 X58 e58 W58 A58 => ?_
 obtain ⟨f58, d_f58⟩ : ∃ z : Nat → Int64, z = (fun i => if i = kp.toNatClampNeg then start else rs i) := ⟨_, rfl⟩
 rw [← d_f58] at A58
 have N_58 := Fr.snoc X58 N_34 gr18
 have Y59 := Y35.wr W58
 have Y60 := Y36.wr W58
 have Y61 := Y37.wr W58
 have Y62 := Y38.other W58 (Or.inl ne24)
 have Y63 := Y39.other W58 (Or.inl ne24)
 have Y64 := Y40.other W58 (Or.inl ne24)
 have Y65 := Y41.other W58 (Or.inl ne24)
 have Y66 := Y42.other W58 (Or.inl ne24)
 have Y67 := Y43.other W58 (Or.inl ne24)
 have Y68 := Y44.other W58 (Or.inl ne24)
 have Y69 := Y45.other W58 (Or.inl ne24)
 have Y70 := Y46.other W58 (Or.inl ne24)
 have Y71 := Y47.other W58 (Or.inl ne24)
 have Y72 := Fw34.other W58 (Or.inl ne24)
 have Y73 := Y49.other W58 (Or.inl ne24)
 have Y74 := Y50.other W58 (Or.inl ne24)
 have Y75 := Y51.other W58 (Or.inl ne24)
 have Y76 := Y52.other W58 (Or.inl ne25)
 have Y77 := Y53.other W58 nt18
 have Y78 := Y54.other W58 ne32
 refine o_q T58 (o_f21 m 40 pp start ending (1 : Int32) kp [(.ref pp)]) (fun _ k9 => XS.aloadN X58.here hx rfl (hb hby o_d7_39) rfl rfl k9) ?_
 refine o_gF X58 hx hZ e58 hby hown (o_m hw 34 rfl) Y75 o_d7_40 fun T80 X80 e80 => ?_
 refine o_q T80 (o_f21 m 45 pp start ending (1 : Int32) kp [(.int kp), (.ref rc)]) (fun _ k9 => XS.iload X80.here hx rfl (hb hby o_d7_43) rfl k9) ?_
 refine o_iC (1 : Int32) X80 hx hby o_d7_45 rfl ?_
 refine o_q T80 (o_f21 m 47 pp start ending (1 : Int32) kp [(.int (kp + (1 : Int32))), (.ref rc)]) (fun _ k9 => XS.iadd X80.here hx rfl (hb hby o_d7_46) rfl k9) ?_
 refine o_q T80 (o_f21 m 48 pp start ending (1 : Int32) kp [(.long ending), (.int (kp + (1 : Int32))), (.ref rc)]) (fun _ k9 => XS.lloadN X80.here hx rfl (hb hby o_d7_47) rfl k9) ?_
 have hin81 : ¬ ((kp + (1 : Int32)) < (0 : Int32)) ∧ (kp + (1 : Int32)) < (24 : Int32) := by
  have r1 := rng32 kp
  have k2 : (1 : Int32).toInt = 1 := by decide
  have e3 : ((kp + (1 : Int32))).toInt = kp.toInt + 1 := by
   rw [Jvm.Free.XT.add32 ⟨by rw [show (1 : Int32).toInt = 1 from by decide]; omega, by rw [show (1 : Int32).toInt = 1 from by decide]; omega⟩]; rw [show (1 : Int32).toInt = 1 from by decide]
  have k4 : (24 : Int32).toInt = 24 := by decide
  have k5 : (0 : Int32).toInt = 0 := by decide
  rw [Int32.lt_iff_toInt_lt, Int32.lt_iff_toInt_lt]
  omega
 refine o_tJ X80 hx hZ e80 hby A58 hin81 o_d7_48 fun T82 h82 X82 e82 W82 A82 => ?_
 obtain ⟨f82, d_f82⟩ : ∃ z : Nat → Int64, z = (fun i => if i = ((kp + (1 : Int32))).toNatClampNeg then ending else f58 i) := ⟨_, rfl⟩
 rw [← d_f82] at A82
 have N_82 := Fr.snoc X82 N_58 gr18
 have Y83 := Y59.wr W82
 have Y84 := Y60.wr W82
 have Y85 := Y61.wr W82
 have Y86 := Y62.other W82 (Or.inl ne24)
 have Y87 := Y63.other W82 (Or.inl ne24)
 have Y88 := Y64.other W82 (Or.inl ne24)
 have Y89 := Y65.other W82 (Or.inl ne24)
 have Y90 := Y66.other W82 (Or.inl ne24)
 have Y91 := Y67.other W82 (Or.inl ne24)
 have Y92 := Y68.other W82 (Or.inl ne24)
 have Y93 := Y69.other W82 (Or.inl ne24)
 have Y94 := Y70.other W82 (Or.inl ne24)
 have Y95 := Y71.other W82 (Or.inl ne24)
 have Y96 := Y72.other W82 (Or.inl ne24)
 have Y97 := Y73.other W82 (Or.inl ne24)
 have Y98 := Y74.other W82 (Or.inl ne24)
 have Y99 := Y75.other W82 (Or.inl ne24)
 have Y100 := Y76.other W82 (Or.inl ne25)
 have Y101 := Y77.other W82 nt18
 have Y102 := Y78.other W82 ne32
 refine o_q T82 (o_f21 m 50 pp start ending (1 : Int32) kp [(.ref pp)]) (fun _ k9 => XS.aloadN X82.here hx rfl (hb hby o_d7_49) rfl rfl k9) ?_
 refine o_gF X82 hx hZ e82 hby hown (o_m hw 34 rfl) Y99 o_d7_50 fun T104 X104 e104 => ?_
 refine o_q T104 (o_f21 m 55 pp start ending (1 : Int32) kp [(.int kp), (.ref rc)]) (fun _ k9 => XS.iload X104.here hx rfl (hb hby o_d7_53) rfl k9) ?_
 refine o_iC (2 : Int32) X104 hx hby o_d7_55 rfl ?_
 refine o_q T104 (o_f21 m 57 pp start ending (1 : Int32) kp [(.int (kp + (2 : Int32))), (.ref rc)]) (fun _ k9 => XS.iadd X104.here hx rfl (hb hby o_d7_56) rfl k9) ?_
 refine o_q T104 (o_f21 m 59 pp start ending (1 : Int32) kp [(.int (1 : Int32)), (.int (kp + (2 : Int32))), (.ref rc)]) (fun _ k9 => XS.iload X104.here hx rfl (hb hby o_d7_57) rfl k9) ?_
 refine o_fN X104 hx hby o_d7_59 ((if0 _ _).trans (tlt (by decide : (0 : Int32) < (1 : Int32))).2.2.2) ?_
 refine o_lC (1 : Int64) X104 hx hby o_d7_62 rfl ?_
 refine o_go 67 X104 hx hby o_d7_63 ?_
 have hin105 : ¬ ((kp + (2 : Int32)) < (0 : Int32)) ∧ (kp + (2 : Int32)) < (24 : Int32) := by
  have r1 := rng32 kp
  have k2 : (2 : Int32).toInt = 2 := by decide
  have e3 : ((kp + (2 : Int32))).toInt = kp.toInt + 2 := by
   rw [Jvm.Free.XT.add32 ⟨by rw [show (2 : Int32).toInt = 2 from by decide]; omega, by rw [show (2 : Int32).toInt = 2 from by decide]; omega⟩]; rw [show (2 : Int32).toInt = 2 from by decide]
  have k4 : (24 : Int32).toInt = 24 := by decide
  have k5 : (0 : Int32).toInt = 0 := by decide
  rw [Int32.lt_iff_toInt_lt, Int32.lt_iff_toInt_lt]
  omega
 refine o_tJ X104 hx hZ e104 hby A82 hin105 o_d7_67 fun T106 h106 X106 e106 W106 A106 => ?_
 obtain ⟨f106, d_f106⟩ : ∃ z : Nat → Int64, z = (fun i => if i = ((kp + (2 : Int32))).toNatClampNeg then (1 : Int64) else f82 i) := ⟨_, rfl⟩
 rw [← d_f106] at A106
 have N_106 := Fr.snoc X106 N_82 gr18
 have Y107 := Y83.wr W106
 have Y108 := Y84.wr W106
 have Y109 := Y85.wr W106
 have Y110 := Y86.other W106 (Or.inl ne24)
 have Y111 := Y87.other W106 (Or.inl ne24)
 have Y112 := Y88.other W106 (Or.inl ne24)
 have Y113 := Y89.other W106 (Or.inl ne24)
 have Y114 := Y90.other W106 (Or.inl ne24)
 have Y115 := Y91.other W106 (Or.inl ne24)
 have Y116 := Y92.other W106 (Or.inl ne24)
 have Y117 := Y93.other W106 (Or.inl ne24)
 have Y118 := Y94.other W106 (Or.inl ne24)
 have Y119 := Y95.other W106 (Or.inl ne24)
 have Y120 := Y96.other W106 (Or.inl ne24)
 have Y121 := Y97.other W106 (Or.inl ne24)
 have Y122 := Y98.other W106 (Or.inl ne24)
 have Y123 := Y99.other W106 (Or.inl ne24)
 have Y124 := Y100.other W106 (Or.inl ne25)
 have Y125 := Y101.other W106 nt18
 have Y126 := Y102.other W106 ne32
 have ja : kp.toNatClampNeg = 3 * q8 := by
  have r1 := rng32 kp
  have n0 := o_nat (kp) (by omega)
  omega
 have jb : ((kp + (1 : Int32))).toNatClampNeg = 3 * q8 + 1 := by
  have r1 := rng32 kp
  have k2 : (1 : Int32).toInt = 1 := by decide
  have e3 : ((kp + (1 : Int32))).toInt = kp.toInt + 1 := by
   rw [Jvm.Free.XT.add32 ⟨by rw [show (1 : Int32).toInt = 1 from by decide]; omega, by rw [show (1 : Int32).toInt = 1 from by decide]; omega⟩]; rw [show (1 : Int32).toInt = 1 from by decide]
  have n0 := o_nat ((kp + (1 : Int32))) (by omega)
  omega
 have jc : ((kp + (2 : Int32))).toNatClampNeg = 3 * q8 + 2 := by
  have r1 := rng32 kp
  have k2 : (2 : Int32).toInt = 2 := by decide
  have e3 : ((kp + (2 : Int32))).toInt = kp.toInt + 2 := by
   rw [Jvm.Free.XT.add32 ⟨by rw [show (2 : Int32).toInt = 2 from by decide]; omega, by rw [show (2 : Int32).toInt = 2 from by decide]; omega⟩]; rw [show (2 : Int32).toInt = 2 from by decide]
  have n0 := o_nat ((kp + (2 : Int32))) (by omega)
  omega
 have RC : o_LA Z h106 rc (24 : Int32) (o_put rs (cn + 1) start ending (1 : Int64)) := A106.congr fun i _ => by
  rw [d_f106, d_f82, d_f58]
  dsimp only [o_put]
  rw [ja, jb, jc, hq8]
 refine o_q T106 (o_f21 m 70 pp start ending (1 : Int32) kp [(.int (1 : Int32))]) (fun _ k9 => XS.iload X106.here hx rfl (hb hby o_d7_68) rfl k9) ?_
 refine o_fN X106 hx hby o_d7_70 ((if0 _ _).trans (tlt (by decide : (0 : Int32) < (1 : Int32))).2.2.2) ?_
 refine o_q T106 (o_f21 m 74 pp start ending (1 : Int32) kp [(.ref pp)]) (fun _ k9 => XS.aloadN X106.here hx rfl (hb hby o_d7_73) rfl rfl k9) ?_
 refine o_q T106 (o_f21 m 75 pp start ending (1 : Int32) kp [(.ref pp), (.ref pp)]) (fun _ k9 => XS.aloadN X106.here hx rfl (hb hby o_d7_74) rfl rfl k9) ?_
 refine o_gF X106 hx hZ e106 hby hown (o_m hw 79 rfl) Y120 o_d7_75 fun T128 X128 e128 => ?_
 refine o_pF X128 hx hZ e128 hby (ty := .long) hown (o_m hw 178 rfl) Y122 Y107 (Or.inl (o_m hw 179 rfl)) (o_m hw 8 rfl) (by decide) rfl rfl o_d7_78 fun T129 h129 X129 e129 W129 => ?_
 have Fw129 := Y122.same W129
 have N_129 := Fr.snoc X129 N_106 gp18
 have Y130 := Y107.wr W129
 have Y131 := Y108.wr W129
 have Y132 := Y109.wr W129
 have Y133 := Y110.other W129 (o_sn (Or.inr (o_m hw 41 rfl)) (Or.inl (o_m hw 179 rfl)))
 have Y134 := Y111.other W129 (o_sn (Or.inl (o_m hw 44 rfl)) (Or.inl (o_m hw 179 rfl)))
 have Y135 := Y112.other W129 (o_sn (Or.inl (o_m hw 47 rfl)) (Or.inl (o_m hw 179 rfl)))
 have Y136 := Y113.other W129 (o_sn (Or.inl (o_m hw 95 rfl)) (Or.inl (o_m hw 179 rfl)))
 have Y137 := Y114.other W129 (o_sn (Or.inl (o_m hw 49 rfl)) (Or.inl (o_m hw 179 rfl)))
 have Y138 := Y115.other W129 (o_sn (Or.inl (o_m hw 149 rfl)) (Or.inl (o_m hw 179 rfl)))
 have Y139 := Y116.other W129 (o_sn (Or.inr (o_m hw 26 rfl)) (Or.inl (o_m hw 179 rfl)))
 have Y140 := Y117.other W129 (o_sn (Or.inl (o_m hw 66 rfl)) (Or.inl (o_m hw 179 rfl)))
 have Y141 := Y118.other W129 (o_sn (Or.inl (o_m hw 39 rfl)) (Or.inl (o_m hw 179 rfl)))
 have Y142 := Y119.other W129 (o_sn (Or.inl (o_m hw 68 rfl)) (Or.inl (o_m hw 179 rfl)))
 have Y143 := Y120.other W129 (o_sn (Or.inl (o_m hw 80 rfl)) (Or.inl (o_m hw 179 rfl)))
 have Y144 := Y121.other W129 (o_sn (Or.inl (o_m hw 177 rfl)) (Or.inl (o_m hw 179 rfl)))
 have Y146 := Y123.other W129 (o_sn (Or.inr (o_m hw 35 rfl)) (Or.inl (o_m hw 179 rfl)))
 have Y147 := Y124.other W129 (Or.inl (Ne.symm ne19))
 have Y148 := Y125.other W129 (Ne.symm ne20)
 have Y149 := Y126.other W129 (Ne.symm ne22)
 have Y150 := RC.other W129 (Ne.symm ne24)
 refine o_q T129 (o_f21 m 82 pp start ending (1 : Int32) kp [(.ref pp)]) (fun _ k9 => XS.aloadN X129.here hx rfl (hb hby o_d7_81) rfl rfl k9) ?_
 refine o_q T129 (o_f21 m 83 pp start ending (1 : Int32) kp [(.ref pp), (.ref pp)]) (fun _ k9 => XS.aloadN X129.here hx rfl (hb hby o_d7_82) rfl rfl k9) ?_
 refine o_gF X129 hx hZ e129 hby hown (o_m hw 48 rfl) Y137 o_d7_83 fun T151 X151 e151 => ?_
 refine o_iC (2 : Int32) X151 hx hby o_d7_86 rfl ?_
 refine o_q T151 (o_f21 m 88 pp start ending (1 : Int32) kp [(.int (tl + (2 : Int32))), (.ref pp)]) (fun _ k9 => XS.iadd X151.here hx rfl (hb hby o_d7_87) rfl k9) ?_
 have hP152 : o_Pr Z n0 pp rc ru wa tm fr tl la L (ch + (1 : Int64)) (ch + (1 : Int64)) xs fs (o_put rs (cn + 1) start ending (1 : Int64)) h129 := ⟨Y130, Y131, Y132, Y133, Y134, Y135, Y136, Y137, Y138, Y139, Y140, Y141, Y142, Y143, Y144, Fw129, Y146, Y147, Y148, Y149, Y150, nt18, wl18, gp18, gt18, gf18, gr18, gu18⟩
 have q153 : ((tl + (2 : Int32))).toInt ≤ L.toInt := by
  have r1 := rng32 tl
  have k2 : (2 : Int32).toInt = 2 := by decide
  have e3 : ((tl + (2 : Int32))).toInt = tl.toInt + 2 := by
   rw [Jvm.Free.XT.add32 ⟨by rw [show (2 : Int32).toInt = 2 from by decide]; omega, by rw [show (2 : Int32).toInt = 2 from by decide]; omega⟩]; rw [show (2 : Int32).toInt = 2 from by decide]
  have r4 := rng32 L
  omega
 obtain ⟨v154, T154, L154, hQ154, X154, st154⟩ := o_callP X151 hx hZ e151 hown (o_m hw 82 rfl) (o_m hw 83 rfl) (o_m hw 8 rfl) (o_m hw 84 rfl) (by decide) (a := pp) Y130 (o_m hw 85 rfl) (o_m hw 9 rfl) (o_room0 l Z a0 hw n0 pp rc ru wa tm fr tl la L (ch + (1 : Int64)) (ch + (1 : Int64)) xs fs (o_put rs (cn + 1) start ending (1 : Int64)) (tl + (2 : Int32)) h129 hP152 q153) (g := (o_f21 m 88 pp start ending (1 : Int32) kp [(.int (tl + (2 : Int32))), (.ref pp)])) rfl (by rw [hml]; rfl) rfl (argsL := [(.int (tl + (2 : Int32)))]) (rest := []) rfl (lenOf o_pd1 rfl) rfl (hb hby o_d7_88) (o_b rfl) (o_b rfl) (o_b rfl) (o_b rfl)
 obtain ⟨rfl, rfl, e154⟩ := hQ154
 rw [List.append_nil] at X154
 refine o_q T154 (o_f21 m 91 pp start ending (1 : Int32) kp [(.int (0 : Int32))]) st154 ?_
 refine o_q T154 (o_f21 m 92 pp start ending (1 : Int32) kp []) (fun _ k9 => XS.pop X154.here hx rfl (hb hby o_d7_91) rfl rfl k9) ?_
 refine o_q T154 (o_f21 m 93 pp start ending (1 : Int32) kp [(.ref pp)]) (fun _ k9 => XS.aloadN X154.here hx rfl (hb hby o_d7_92) rfl rfl k9) ?_
 refine o_q T154 (o_f21 m 94 pp start ending (1 : Int32) kp [(.long start), (.ref pp)]) (fun _ k9 => XS.lloadN X154.here hx rfl (hb hby o_d7_93) rfl k9) ?_
 have q155 : 1 ≤ tl.toInt := by
  have r1 := rng32 tl
  omega
 have q156 : tl.toInt ≤ L.toInt := by
  have r1 := rng32 tl
  have r2 := rng32 L
  omega
 have q157 : L.toInt ≤ 32 := by
  have r1 := rng32 L
  omega
 have q158 : tl.toInt + 1 ≤ L.toInt := by
  have r1 := rng32 tl
  have r2 := rng32 L
  omega
 have hP159 : o_Pr Z n0 pp rc ru wa tm fr tl la L (ch + (1 : Int64)) (ch + (1 : Int64)) xs fs (o_put rs (cn + 1) start ending (1 : Int64)) h129 := ⟨Y130, Y131, Y132, Y133, Y134, Y135, Y136, Y137, Y138, Y139, Y140, Y141, Y142, Y143, Y144, Fw129, Y146, Y147, Y148, Y149, Y150, nt18, wl18, gp18, gt18, gf18, gr18, gu18⟩
 obtain ⟨v160, T160, L160, hQ160, X160, st160⟩ := o_callP X154 hx hZ e154 hown (o_m hw 86 rfl) (o_m hw 87 rfl) (o_m hw 8 rfl) (o_m hw 88 rfl) (by decide) (a := pp) Y130 (o_m hw 89 rfl) (o_m hw 9 rfl) (o_split l Z a0 hw n0 pp rc ru wa tm fr tl la L (ch + (1 : Int64)) (ch + (1 : Int64)) xs fs (o_put rs (cn + 1) start ending (1 : Int64)) start h129 hP159 q155 q156 q157 q158) (g := (o_f21 m 94 pp start ending (1 : Int32) kp [(.long start), (.ref pp)])) rfl (by rw [hml]; rfl) rfl (argsL := [(.long start)]) (rest := []) rfl (lenOf o_pd8 rfl) rfl (hb hby o_d7_94) (o_b rfl) (o_b rfl) (o_b rfl) (o_b rfl)
 obtain ⟨h160, e160⟩ : ∃ z, T160.heap = z := ⟨_, rfl⟩
 rw [e160] at hQ160
 obtain ⟨r160, tl160, la160, xs160, fs160, rfl, N160, hR160, pa160, pb160, pc160, pd160, pe160, pf160, pg160, ph160⟩ := hQ160
 have N_160 := Fr.app N_129 N160
 obtain ⟨Ep161, Er161, Ew161, F161_cpus, F161_times, F161_free, F161_head, F161_tail, F161_lastAt, F161_runs, F161_firstKnown, F161_watcher, F161_watchedAs, F161_changes, F161_merged, F161_gaveBack, F161_recent, Fn161, At161, Af161, Ar161, nt161, wl161, gp161, gt161, gf161, gr161, gu161⟩ := hR160
 refine o_q T160 (o_f21 m 97 pp start ending (1 : Int32) kp [(.int r160)]) st160 ?_
 refine o_q T160 (o_f22 m 99 pp start ending (1 : Int32) kp r160 []) (fun _ k9 => XS.istore X160.here hx rfl (hb hby o_d7_97) rfl (l' := (o_t22 pp start ending (1 : Int32) kp r160)) rfl k9) ?_
 refine o_q T160 (o_f22 m 100 pp start ending (1 : Int32) kp r160 [(.ref pp)]) (fun _ k9 => XS.aloadN X160.here hx rfl (hb hby o_d7_99) rfl rfl k9) ?_
 refine o_q T160 (o_f22 m 101 pp start ending (1 : Int32) kp r160 [(.long ending), (.ref pp)]) (fun _ k9 => XS.lloadN X160.here hx rfl (hb hby o_d7_100) rfl k9) ?_
 have q176 : 1 ≤ tl160.toInt := by
  have r1 := rng32 tl160
  omega
 have q177 : tl160.toInt ≤ L.toInt := by
  have r1 := rng32 tl160
  have r2 := rng32 L
  omega
 have q178 : L.toInt ≤ 32 := by
  have r1 := rng32 L
  omega
 have q179 : tl160.toInt + 1 ≤ L.toInt := by
  have r1 := rng32 tl160
  have r2 := rng32 L
  omega
 have hP180 : o_Pr Z n0 pp rc ru wa tm fr tl160 la160 L (ch + (1 : Int64)) (ch + (1 : Int64)) xs160 fs160 (o_put rs (cn + 1) start ending (1 : Int64)) h160 := ⟨Ep161, Er161, Ew161, F161_cpus, F161_times, F161_free, F161_head, F161_tail, F161_lastAt, F161_runs, F161_firstKnown, F161_watcher, F161_watchedAs, F161_changes, F161_merged, F161_gaveBack, F161_recent, Fn161, At161, Af161, Ar161, nt161, wl161, gp161, gt161, gf161, gr161, gu161⟩
 obtain ⟨v181, T181, L181, hQ181, X181, st181⟩ := o_callP X160 hx hZ e160 hown (o_m hw 86 rfl) (o_m hw 87 rfl) (o_m hw 8 rfl) (o_m hw 88 rfl) (by decide) (a := pp) Ep161 (o_m hw 89 rfl) (o_m hw 9 rfl) (o_split l Z a0 hw n0 pp rc ru wa tm fr tl160 la160 L (ch + (1 : Int64)) (ch + (1 : Int64)) xs160 fs160 (o_put rs (cn + 1) start ending (1 : Int64)) ending h160 hP180 q176 q177 q178 q179) (g := (o_f22 m 101 pp start ending (1 : Int32) kp r160 [(.long ending), (.ref pp)])) rfl (by rw [hml]; rfl) rfl (argsL := [(.long ending)]) (rest := []) rfl (lenOf o_pd8 rfl) rfl (hb hby o_d7_101) (o_b rfl) (o_b rfl) (o_b rfl) (o_b rfl)
 obtain ⟨h181, e181⟩ : ∃ z, T181.heap = z := ⟨_, rfl⟩
 rw [e181] at hQ181
 obtain ⟨r181, tl181, la181, xs181, fs181, rfl, N181, hR181, pa181, pb181, pc181, pd181, pe181, pf181, pg181, ph181⟩ := hQ181
 have N_181 := Fr.app N_160 N181
 obtain ⟨Ep182, Er182, Ew182, F182_cpus, F182_times, F182_free, F182_head, F182_tail, F182_lastAt, F182_runs, F182_firstKnown, F182_watcher, F182_watchedAs, F182_changes, F182_merged, F182_gaveBack, F182_recent, Fn182, At182, Af182, Ar182, nt182, wl182, gp182, gt182, gf182, gr182, gu182⟩ := hR181
 refine o_q T181 (o_f22 m 104 pp start ending (1 : Int32) kp r160 [(.int r181)]) st181 ?_
 refine o_q T181 (o_f23 m 106 pp start ending (1 : Int32) kp r160 r181 []) (fun _ k9 => XS.istore X181.here hx rfl (hb hby o_d7_104) rfl (l' := (o_t23 pp start ending (1 : Int32) kp r160 r181)) rfl k9) ?_
 refine o_q T181 (o_f23 m 108 pp start ending (1 : Int32) kp r160 r181 [(.int r160)]) (fun _ k9 => XS.iload X181.here hx rfl (hb hby o_d7_106) rfl k9) ?_
 refine o_q T181 (o_f19 m 110 pp start ending (1 : Int32) kp r160 r181 r160 []) (fun _ k9 => XS.istore X181.here hx rfl (hb hby o_d7_108) rfl (l' := (o_t19 pp start ending (1 : Int32) kp r160 r181 r160)) rfl k9) ?_
 have hP197 : o_Pr Z n0 pp rc ru wa tm fr tl181 la181 L (ch + (1 : Int64)) (ch + (1 : Int64)) xs181 fs181 (o_put rs (cn + 1) start ending (1 : Int64)) h181 := ⟨Ep182, Er182, Ew182, F182_cpus, F182_times, F182_free, F182_head, F182_tail, F182_lastAt, F182_runs, F182_firstKnown, F182_watcher, F182_watchedAs, F182_changes, F182_merged, F182_gaveBack, F182_recent, Fn182, At182, Af182, Ar182, nt182, wl182, gp182, gt182, gf182, gr182, gu182⟩
 have n0198 : 1 ≤ tl.toNatClampNeg := by
  have r1 := rng32 tl
  have n0 := o_nat (tl) (by omega)
  omega
 have n1198 : 1 ≤ tl160.toNatClampNeg := by
  have r1 := rng32 tl160
  have n0 := o_nat (tl160) (by omega)
  omega
 have S0198 : o_S lo hi tl.toNatClampNeg xs fs := Sg
 have x0198 : xs 0 = xs 0 := rfl
 have S1198 := o_Ssplit n0198 S0198 (fun q => by rw [x0198]; exact hz q) pe160 pg160
 have S2198 := o_Ssplit n1198 S1198 (fun q => by rw [pf160, x0198]; exact o_lt3 (hz q) hse) pe181 pg181
 obtain ⟨S3198, U3198⟩ := o_Sinit Dd S2198
 have q199 : 1 ≤ tl181.toInt := by
  have r1 := rng32 tl181
  omega
 have q200 : tl181.toInt ≤ L.toInt := by
  have r1 := rng32 tl181
  have r2 := rng32 L
  omega
 have q201 : L.toInt ≤ 32 := by
  have r1 := rng32 L
  omega
 have q202 : r181.toInt < tl181.toInt := by
  have r1 := rng32 r181
  have r2 := rng32 tl181
  omega
 have q203 : 0 ≤ r181.toInt := by
  have r1 := rng32 r181
  omega
 have q204 : 0 ≤ r160.toInt := by
  have r1 := rng32 r160
  omega
 have q205 : r160.toInt ≤ 33 := by
  have r1 := rng32 r160
  have r2 := rng32 tl160
  have r3 := rng32 tl181
  omega
 have q206 : 0 ≤ r160.toInt := by
  have r1 := rng32 r160
  omega
 have q207 : r181.toInt - r160.toInt + 40 ≤ (100 : Nat) := by
  have r1 := rng32 r181
  have r2 := rng32 r160
  have r3 := rng32 tl181
  omega
 have GL := o_addN_p1_loop Z a0 hw n0 pp rc ru wa tm fr tl181 la181 L (ch + (1 : Int64)) (ch + (1 : Int64)) xs181 (o_put rs (cn + 1) start ending (1 : Int64)) kp r160 r181 start ending lo hi lo1 hi1 q199 q200 q201 q202 q203 q204 Dd hx hby hml hZ hown hret hlk 100 r160 fs181 _ _ X181 e181 N_181 hP197 q205 q206 q207 S3198 (fun j _ h => U3198 j h)
 have q208 : tl181.toInt ≤ tl.toInt + 2 := by
  have r1 := rng32 tl160
  have r2 := rng32 tl181
  have r3 := rng32 tl
  omega
 exact o_mono (fun v h Ls ⟨tl', xs', fs', a1, a2, a3, a4, a5, a6, a7⟩ => ⟨tm, fr, tl', la181, xs', fs', a1, a2, a3, a4, Int.le_trans a5 q208, by rw [a6, pf181, pf160, x0198], a7⟩) GL
set_option maxRecDepth 65536 in
set_option maxHeartbeats 40000000 in
theorem o_addG_p1_loop {p : Program} {l : Launch} {e : Env} {s : State} {m : MethodId} {below : List Frame} {meth : Method} {c : Code} (Z : State) (a0 : Array Value) (hw : ∀ d ∈ tables_1, d.before a0 Z = true) (n0 : Nat) (pp rc ru wa tmx frx : Addr) (tlx lax L2 : Int32) (chx gbx : Int64) (xsx : Nat → Int64) (rsx : Nat → Int64) (kp fst aft : Int32) (start ending : Int64) (lo hi lo1 hi1 : Int) (i1 : 1 ≤ tlx.toInt) (i2 : tlx.toInt ≤ L2.toInt) (i3 : L2.toInt ≤ 32) (f1 : aft.toInt < tlx.toInt) (f2 : 0 ≤ aft.toInt) (f3 : 0 ≤ fst.toInt) (Dd : o_D lo hi lo1 hi1 (1))
  (hx : p.tables.exec = Jvm.exec) (hby : c.code = o_y12) (hml : c.maxLocals = 10) (hZ : Z.Warmed39 s.vm) (hown : s.vm.findClass o_n1 = some m.cls) (hret : meth.sig.returnType = none) (hlk : meth.locks = false) :
  ∀ (k : Nat) (kk : Int32) (fsc : Nat → Int32) (locs : List Loc) (hh : Heap) {T : State} (X0 : Stand p l e (o_R 5 2 64 100) s m #[(.ref pp), (.long start), (.long ending), (.int (1 : Int32))] below meth c T locs 2 64) (e0 : T.heap = hh), Fr n0 locs → o_Pr Z n0 pp rc ru wa tmx frx tlx lax L2 chx gbx xsx fsc rsx hh → kk.toInt ≤ 33 → 0 ≤ kk.toInt → aft.toInt - kk.toInt + 40 ≤ (k : Int) → o_S lo1 hi1 tlx.toNatClampNeg xsx fsc → (∀ j, kk.toNatClampNeg ≤ j → j + 1 < tlx.toNatClampNeg → lo ≤ (fsc j).toInt ∧ (fsc j).toInt ≤ hi) → o_G p e below s (fun v h Ls => ∃ (tl' : Int32) (xs' : Nat → Int64) (fs' : Nat → Int32), v = none ∧ Fr n0 Ls ∧ o_Pr Z n0 pp rc ru wa tmx frx tl' lax L2 chx gbx xs' fs' rsx h ∧ 1 ≤ tl'.toInt ∧ tl'.toInt ≤ tlx.toInt ∧ xs' 0 = xsx 0 ∧ o_S lo1 hi1 tl'.toNatClampNeg xs' fs') 2 64 T (o_f19 m 110 pp start ending (1 : Int32) kp fst aft kk []) := by
 intro k
 induction k with
 | zero => intro kk fsc locs hh T X0 e0 NL hP g1 g0 g2 Sx Uk; exfalso; omega
 | succ k ih =>
 intro kk fsc locs hh T X0 e0 NL hP g1 g0 g2 Sx Uk
 obtain ⟨Ep1, Er1, Ew1, F1_cpus, F1_times, F1_free, F1_head, F1_tail, F1_lastAt, F1_runs, F1_firstKnown, F1_watcher, F1_watchedAs, F1_changes, F1_merged, F1_gaveBack, F1_recent, Fn1, At1, Af1, Ar1, nt1, wl1, gp1, gt1, gf1, gr1, gu1⟩ := hP
 have ne5 : o_ne pp frx := Af1.neExa Ep1 (o_m hw 8 rfl)
 have ne6 : o_ne ru frx := Af1.neExa Er1 (o_m hw 17 rfl)
 have ne14 : o_ne tmx frx := At1.ne Af1 (by intro q; cases q)
 have ne15 : o_ne frx rc := Af1.ne Ar1 (by intro q; cases q)
 refine o_q T (o_f19 m 112 pp start ending (1 : Int32) kp fst aft kk [(.int kk)]) (fun _ k9 => XS.iload X0.here hx rfl (hb hby o_d7_110) rfl k9) ?_
 refine o_q T (o_f19 m 114 pp start ending (1 : Int32) kp fst aft kk [(.int aft), (.int kk)]) (fun _ k9 => XS.iload X0.here hx rfl (hb hby o_d7_112) rfl k9) ?_
 by_cases c0 : kk < aft
 ·refine o_cN X0 hx hby o_d7_114 (tlt c0).2.1 ?_
  refine o_q T (o_f19 m 118 pp start ending (1 : Int32) kp fst aft kk [(.ref pp)]) (fun _ k9 => XS.aloadN X0.here hx rfl (hb hby o_d7_117) rfl rfl k9) ?_
  refine o_gF X0 hx hZ e0 hby hown (o_m hw 46 rfl) F1_free o_d7_118 fun T16 X16 e16 => ?_
  refine o_q T16 (o_f19 m 123 pp start ending (1 : Int32) kp fst aft kk [(.int kk), (.ref frx)]) (fun _ k9 => XS.iload X16.here hx rfl (hb hby o_d7_121) rfl k9) ?_
  refine o_q T16 (o_f19 m 124 pp start ending (1 : Int32) kp fst aft kk [(.int kk), (.ref frx), (.int kk), (.ref frx)]) (fun _ k9 => Jvm.Free.XT.dup2 X16.here hx rfl (hb hby o_d7_123) rfl rfl rfl k9) ?_
  have hin17 : ¬ (kk < (0 : Int32)) ∧ kk < L2 := by
   have r1 := rng32 kk
   have r2 := rng32 L2
   have k3 : (0 : Int32).toInt = 0 := by decide
   have r4 := rng32 aft
   have d0 : kk.toInt < aft.toInt := Int32.lt_iff_toInt_lt.mp c0
   rw [Int32.lt_iff_toInt_lt, Int32.lt_iff_toInt_lt]
   omega
  refine o_dI X16 hx hZ e16 hby Af1 hin17 o_d7_124 ?_
  refine o_q T16 (o_f19 m 127 pp start ending (1 : Int32) kp fst aft kk [(.int (1 : Int32)), (.int (fsc kk.toNatClampNeg)), (.int kk), (.ref frx)]) (fun _ k9 => XS.iload X16.here hx rfl (hb hby o_d7_125) rfl k9) ?_
  refine o_q T16 (o_f19 m 128 pp start ending (1 : Int32) kp fst aft kk [(.int ((fsc kk.toNatClampNeg) + (1 : Int32))), (.int kk), (.ref frx)]) (fun _ k9 => XS.iadd X16.here hx rfl (hb hby o_d7_127) rfl k9) ?_
  have hin18 : ¬ (kk < (0 : Int32)) ∧ kk < L2 := by
   have r1 := rng32 kk
   have r2 := rng32 L2
   have k3 : (0 : Int32).toInt = 0 := by decide
   have r4 := rng32 aft
   have d0 : kk.toInt < aft.toInt := Int32.lt_iff_toInt_lt.mp c0
   rw [Int32.lt_iff_toInt_lt, Int32.lt_iff_toInt_lt]
   omega
  refine o_tI X16 hx hZ e16 hby Af1 hin18 o_d7_128 fun T19 h19 X19 e19 W19 A19 => ?_
  obtain ⟨f19, d_f19⟩ : ∃ z : Nat → Int32, z = (fun i => if i = kk.toNatClampNeg then ((fsc kk.toNatClampNeg) + (1 : Int32)) else fsc i) := ⟨_, rfl⟩
  rw [← d_f19] at A19
  have N_19 := Fr.snoc X19 NL gf1
  have Y20 := Ep1.wr W19
  have Y21 := Er1.wr W19
  have Y22 := Ew1.wr W19
  have Y23 := F1_cpus.other W19 (Or.inl ne5)
  have Y24 := F1_times.other W19 (Or.inl ne5)
  have Y25 := F1_free.other W19 (Or.inl ne5)
  have Y26 := F1_head.other W19 (Or.inl ne5)
  have Y27 := F1_tail.other W19 (Or.inl ne5)
  have Y28 := F1_lastAt.other W19 (Or.inl ne5)
  have Y29 := F1_runs.other W19 (Or.inl ne5)
  have Y30 := F1_firstKnown.other W19 (Or.inl ne5)
  have Y31 := F1_watcher.other W19 (Or.inl ne5)
  have Y32 := F1_watchedAs.other W19 (Or.inl ne5)
  have Y33 := F1_changes.other W19 (Or.inl ne5)
  have Y34 := F1_merged.other W19 (Or.inl ne5)
  have Y35 := F1_gaveBack.other W19 (Or.inl ne5)
  have Y36 := F1_recent.other W19 (Or.inl ne5)
  have Y37 := Fn1.other W19 (Or.inl ne6)
  have Y38 := At1.other W19 ne14
  have Y40 := Ar1.other W19 (Ne.symm ne15)
  refine o_q T19 (o_f19 m 130 pp start ending (1 : Int32) kp fst aft kk [(.ref pp)]) (fun _ k9 => XS.aloadN X19.here hx rfl (hb hby o_d7_129) rfl rfl k9) ?_
  refine o_q T19 (o_f19 m 131 pp start ending (1 : Int32) kp fst aft kk [(.ref pp), (.ref pp)]) (fun _ k9 => XS.aloadN X19.here hx rfl (hb hby o_d7_130) rfl rfl k9) ?_
  refine o_gF X19 hx hZ e19 hby hown (o_m hw 46 rfl) Y25 o_d7_131 fun T41 X41 e41 => ?_
  refine o_q T41 (o_f19 m 136 pp start ending (1 : Int32) kp fst aft kk [(.int kk), (.ref frx), (.ref pp)]) (fun _ k9 => XS.iload X41.here hx rfl (hb hby o_d7_134) rfl k9) ?_
  have hin42 : ¬ (kk < (0 : Int32)) ∧ kk < L2 := by
   have r1 := rng32 kk
   have r2 := rng32 L2
   have k3 : (0 : Int32).toInt = 0 := by decide
   have r4 := rng32 aft
   have d0 : kk.toInt < aft.toInt := Int32.lt_iff_toInt_lt.mp c0
   rw [Int32.lt_iff_toInt_lt, Int32.lt_iff_toInt_lt]
   omega
  refine o_dI X41 hx hZ e41 hby A19 hin42 o_d7_136 ?_
  refine o_q T41 (o_f19 m 138 pp start ending (1 : Int32) kp fst aft kk [(.ref pp), (.int (f19 kk.toNatClampNeg)), (.ref pp)]) (fun _ k9 => XS.aloadN X41.here hx rfl (hb hby o_d7_137) rfl rfl k9) ?_
  refine o_gF X41 hx hZ e41 hby hown (o_m hw 43 rfl) Y24 o_d7_138 fun T43 X43 e43 => ?_
  refine o_q T43 (o_f19 m 143 pp start ending (1 : Int32) kp fst aft kk [(.int kk), (.ref tmx), (.int (f19 kk.toNatClampNeg)), (.ref pp)]) (fun _ k9 => XS.iload X43.here hx rfl (hb hby o_d7_141) rfl k9) ?_
  have hin44 : ¬ (kk < (0 : Int32)) ∧ kk < L2 := by
   have r1 := rng32 kk
   have r2 := rng32 L2
   have k3 : (0 : Int32).toInt = 0 := by decide
   have r4 := rng32 aft
   have d0 : kk.toInt < aft.toInt := Int32.lt_iff_toInt_lt.mp c0
   rw [Int32.lt_iff_toInt_lt, Int32.lt_iff_toInt_lt]
   omega
  refine o_dJ X43 hx hZ e43 hby Y38 hin44 o_d7_143 ?_
  have ev45 : (f19 kk.toNatClampNeg) = fsc kk.toNatClampNeg + (1 : Int32) := by rw [d_f19]; dsimp only; rw [if_pos rfl]
  have kn45 : kk.toNatClampNeg + 1 < tlx.toNatClampNeg := by
   have r1 := rng32 kk
   have r2 := rng32 aft
   have r3 := rng32 tlx
   have d0 : kk.toInt < aft.toInt := Int32.lt_iff_toInt_lt.mp c0
   have n0 := o_nat (kk) (by omega)
   have n1 := o_nat (tlx) (by omega)
   omega
  have bb45 := Uk _ (Nat.le_refl _) kn45
  have Dq45 := Dd
  obtain ⟨-, -, -, -, q5, q6, -, -⟩ := Dq45
  have vv45 := o_vv_p1 _ _ lo hi bb45 q5 q6 ev45
  obtain ⟨v46, T46, L46, hQ46, X46, st46⟩ := o_callP X43 hx hZ e43 hown (o_m hw 107 rfl) (o_m hw 108 rfl) (o_m hw 8 rfl) (o_m hw 109 rfl) (by decide) (a := pp) Y20 (o_m hw 110 rfl) (o_m hw 9 rfl) (o_k14_6 l Z a0 hw pp (f19 kk.toNatClampNeg) (xsx kk.toNatClampNeg) h19 (o_nlt0 vv45.2.1) Y23 (o_nlt16 vv45.2.2)) (g := (o_f19 m 144 pp start ending (1 : Int32) kp fst aft kk [(.long (xsx kk.toNatClampNeg)), (.int (f19 kk.toNatClampNeg)), (.ref pp)])) rfl (by rw [hml]; rfl) rfl (argsL := [(.int (f19 kk.toNatClampNeg)), (.long (xsx kk.toNatClampNeg))]) (rest := []) rfl (lenOf o_pd7 rfl) rfl (hb hby o_d7_144) (o_b rfl) (o_b rfl) (o_b rfl) (o_b rfl)
  obtain ⟨rfl, rfl, e46⟩ := hQ46
  rw [List.append_nil] at X46
  refine o_q T46 (o_f19 m 147 pp start ending (1 : Int32) kp fst aft kk []) st46 ?_
  refine o_q T46 (o_f19 m 150 pp start ending (1 : Int32) kp fst aft (kk + (1 : Int32)) []) (fun _ k9 => XS.iinc X46.here hx rfl (hb hby o_d7_147) rfl (l' := (o_t19 pp start ending (1 : Int32) kp fst aft (kk + (1 : Int32)))) rfl k9) ?_
  refine o_go 110 X46 hx hby o_d7_150 ?_
  have hP47 : o_Pr Z n0 pp rc ru wa tmx frx tlx lax L2 chx gbx xsx f19 rsx h19 := ⟨Y20, Y21, Y22, Y23, Y24, Y25, Y26, Y27, Y28, Y29, Y30, Y31, Y32, Y33, Y34, Y35, Y36, Y37, Y38, A19, Y40, nt1, wl1, gp1, gt1, gf1, gr1, gu1⟩
  have q49 : ((kk + (1 : Int32))).toInt ≤ 33 := by
   have r1 := rng32 kk
   have k2 : (1 : Int32).toInt = 1 := by decide
   have e3 : ((kk + (1 : Int32))).toInt = kk.toInt + 1 := by
    rw [Jvm.Free.XT.add32 ⟨by rw [show (1 : Int32).toInt = 1 from by decide]; omega, by rw [show (1 : Int32).toInt = 1 from by decide]; omega⟩]; rw [show (1 : Int32).toInt = 1 from by decide]
   have r4 := rng32 aft
   have r5 := rng32 tlx
   have d0 : kk.toInt < aft.toInt := Int32.lt_iff_toInt_lt.mp c0
   omega
  have q50 : 0 ≤ ((kk + (1 : Int32))).toInt := by
   have r1 := rng32 kk
   have k2 : (1 : Int32).toInt = 1 := by decide
   have e3 : ((kk + (1 : Int32))).toInt = kk.toInt + 1 := by
    rw [Jvm.Free.XT.add32 ⟨by rw [show (1 : Int32).toInt = 1 from by decide]; omega, by rw [show (1 : Int32).toInt = 1 from by decide]; omega⟩]; rw [show (1 : Int32).toInt = 1 from by decide]
   have r4 := rng32 aft
   have r5 := rng32 tlx
   have d0 : kk.toInt < aft.toInt := Int32.lt_iff_toInt_lt.mp c0
   omega
  have q51 : aft.toInt - ((kk + (1 : Int32))).toInt + 40 ≤ (k : Int) := by
   have r1 := rng32 kk
   have k2 : (1 : Int32).toInt = 1 := by decide
   have e3 : ((kk + (1 : Int32))).toInt = kk.toInt + 1 := by
    rw [Jvm.Free.XT.add32 ⟨by rw [show (1 : Int32).toInt = 1 from by decide]; omega, by rw [show (1 : Int32).toInt = 1 from by decide]; omega⟩]; rw [show (1 : Int32).toInt = 1 from by decide]
   have r4 := rng32 aft
   have d0 : kk.toInt < aft.toInt := Int32.lt_iff_toInt_lt.mp c0
   omega
  have kz48 : ((kk + (1 : Int32))).toNatClampNeg = kk.toNatClampNeg + 1 := by
   have r1 := rng32 kk
   have k2 : (1 : Int32).toInt = 1 := by decide
   have e3 : ((kk + (1 : Int32))).toInt = kk.toInt + 1 := by
    rw [Jvm.Free.XT.add32 ⟨by rw [show (1 : Int32).toInt = 1 from by decide]; omega, by rw [show (1 : Int32).toInt = 1 from by decide]; omega⟩]; rw [show (1 : Int32).toInt = 1 from by decide]
   have r4 := rng32 aft
   have r5 := rng32 tlx
   have d0 : kk.toInt < aft.toInt := Int32.lt_iff_toInt_lt.mp c0
   have n0 := o_nat (kk) (by omega)
   have n1 := o_nat ((kk + (1 : Int32))) (by omega)
   omega
  obtain ⟨S248, U248⟩ := o_Sstep Dd kn45 Sx Uk vv45.1 (fun i hi => by rw [d_f19]; dsimp only; rw [if_neg hi])
  exact ih (kk + (1 : Int32)) f19 _ _ X46 e46 N_19 hP47 q49 q50 q51 S248 (by rw [kz48]; exact U248)
 ·refine o_cY 153 X0 hx hby o_d7_114 (flt c0).2.1 ?_
  refine o_q T (o_f19 m 154 pp start ending (1 : Int32) kp fst aft kk [(.ref pp)]) (fun _ k9 => XS.aloadN X0.here hx rfl (hb hby o_d7_153) rfl rfl k9) ?_
  refine o_gF X0 hx hZ e0 hby hown (o_m hw 25 rfl) F1_runs o_d7_154 fun T52 X52 e52 => ?_
  refine o_q T52 (o_f19 m 159 pp start ending (1 : Int32) kp fst aft kk [(.int fst), (.ref ru)]) (fun _ k9 => XS.iload X52.here hx rfl (hb hby o_d7_157) rfl k9) ?_
  refine o_q T52 (o_f19 m 161 pp start ending (1 : Int32) kp fst aft kk [(.int aft), (.int fst), (.ref ru)]) (fun _ k9 => XS.iload X52.here hx rfl (hb hby o_d7_159) rfl k9) ?_
  obtain ⟨v53, T53, L53, hQ53, X53, st53⟩ := o_callV X52 hx hZ e52 hown (o_m hw 111 rfl) (o_m hw 112 rfl) (o_m hw 114 rfl) (o_m hw 113 rfl) (by decide) (b := ru) Er1 (o_m hw 115 rfl) (o_m hw 18 rfl) (o_k15_7 l Z a0 hw ru fst aft hh Fn1) (g := (o_f19 m 161 pp start ending (1 : Int32) kp fst aft kk [(.int aft), (.int fst), (.ref ru)])) rfl (by rw [hml]; rfl) rfl (argsL := [(.int fst), (.int aft)]) (rest := []) rfl (lenOf o_pd5 rfl) rfl (hb hby o_d7_161) (o_b rfl) (o_b rfl) (o_b rfl) (o_b rfl)
  obtain ⟨rfl, rfl, e53⟩ := hQ53
  rw [List.append_nil] at X53
  refine o_q T53 (o_f19 m 164 pp start ending (1 : Int32) kp fst aft kk []) st53 ?_
  refine o_q T53 (o_f19 m 165 pp start ending (1 : Int32) kp fst aft kk [(.ref pp)]) (fun _ k9 => XS.aloadN X53.here hx rfl (hb hby o_d7_164) rfl rfl k9) ?_
  refine o_q T53 (o_f19 m 167 pp start ending (1 : Int32) kp fst aft kk [(.int aft), (.ref pp)]) (fun _ k9 => XS.iload X53.here hx rfl (hb hby o_d7_165) rfl k9) ?_
  have q54 : 1 ≤ tlx.toInt := by
   have r1 := rng32 tlx
   have r2 := rng32 kk
   have r3 := rng32 aft
   have d0 : ¬ (kk.toInt < aft.toInt) := mt Int32.lt_iff_toInt_lt.mpr c0
   omega
  have q55 : tlx.toInt ≤ L2.toInt := by
   have r1 := rng32 tlx
   have r2 := rng32 L2
   have r3 := rng32 kk
   have r4 := rng32 aft
   have d0 : ¬ (kk.toInt < aft.toInt) := mt Int32.lt_iff_toInt_lt.mpr c0
   omega
  have q56 : L2.toInt ≤ 32 := by
   have r1 := rng32 L2
   have r2 := rng32 kk
   have r3 := rng32 aft
   have d0 : ¬ (kk.toInt < aft.toInt) := mt Int32.lt_iff_toInt_lt.mpr c0
   omega
  have q57 : 0 ≤ aft.toInt := by
   have r1 := rng32 aft
   have r2 := rng32 kk
   have d0 : ¬ (kk.toInt < aft.toInt) := mt Int32.lt_iff_toInt_lt.mpr c0
   omega
  have hP58 : o_Pr Z n0 pp rc ru wa tmx frx tlx lax L2 chx gbx xsx fsc rsx hh := ⟨Ep1, Er1, Ew1, F1_cpus, F1_times, F1_free, F1_head, F1_tail, F1_lastAt, F1_runs, F1_firstKnown, F1_watcher, F1_watchedAs, F1_changes, F1_merged, F1_gaveBack, F1_recent, Fn1, At1, Af1, Ar1, nt1, wl1, gp1, gt1, gf1, gr1, gu1⟩
  obtain ⟨v59, T59, L59, hQ59, X59, st59⟩ := o_callP X53 hx hZ e53 hown (o_m hw 116 rfl) (o_m hw 117 rfl) (o_m hw 8 rfl) (o_m hw 118 rfl) (by decide) (a := pp) Ep1 (o_m hw 119 rfl) (o_m hw 9 rfl) (o_merge l Z a0 hw n0 pp rc ru wa tmx frx tlx lax L2 chx gbx xsx fsc rsx aft hh hP58 q54 q55 q56 q57) (g := (o_f19 m 167 pp start ending (1 : Int32) kp fst aft kk [(.int aft), (.ref pp)])) rfl (by rw [hml]; rfl) rfl (argsL := [(.int aft)]) (rest := []) rfl (lenOf o_pd3 rfl) rfl (hb hby o_d7_167) (o_b rfl) (o_b rfl) (o_b rfl) (o_b rfl)
  obtain ⟨h59, e59⟩ : ∃ z, T59.heap = z := ⟨_, rfl⟩
  rw [e59] at hQ59
  obtain ⟨tl59, xs59, fs59, rfl, N59, hR59, ma59, mb59, mc59, md59, me59⟩ := hQ59
  have N_59 := Fr.app NL N59
  obtain ⟨Ep60, Er60, Ew60, F60_cpus, F60_times, F60_free, F60_head, F60_tail, F60_lastAt, F60_runs, F60_firstKnown, F60_watcher, F60_watchedAs, F60_changes, F60_merged, F60_gaveBack, F60_recent, Fn60, At60, Af60, Ar60, nt60, wl60, gp60, gt60, gf60, gr60, gu60⟩ := hR59
  refine o_q T59 (o_f19 m 170 pp start ending (1 : Int32) kp fst aft kk []) st59 ?_
  refine o_q T59 (o_f19 m 171 pp start ending (1 : Int32) kp fst aft kk [(.ref pp)]) (fun _ k9 => XS.aloadN X59.here hx rfl (hb hby o_d7_170) rfl rfl k9) ?_
  refine o_q T59 (o_f19 m 173 pp start ending (1 : Int32) kp fst aft kk [(.int fst), (.ref pp)]) (fun _ k9 => XS.iload X59.here hx rfl (hb hby o_d7_171) rfl k9) ?_
  have q75 : 1 ≤ tl59.toInt := by
   have r1 := rng32 tl59
   have r2 := rng32 kk
   have r3 := rng32 aft
   have d0 : ¬ (kk.toInt < aft.toInt) := mt Int32.lt_iff_toInt_lt.mpr c0
   omega
  have q76 : tl59.toInt ≤ L2.toInt := by
   have r1 := rng32 tl59
   have r2 := rng32 L2
   have r3 := rng32 kk
   have r4 := rng32 aft
   have d0 : ¬ (kk.toInt < aft.toInt) := mt Int32.lt_iff_toInt_lt.mpr c0
   omega
  have q77 : L2.toInt ≤ 32 := by
   have r1 := rng32 L2
   have r2 := rng32 kk
   have r3 := rng32 aft
   have d0 : ¬ (kk.toInt < aft.toInt) := mt Int32.lt_iff_toInt_lt.mpr c0
   omega
  have q78 : 0 ≤ fst.toInt := by
   have r1 := rng32 fst
   have r2 := rng32 kk
   have r3 := rng32 aft
   have d0 : ¬ (kk.toInt < aft.toInt) := mt Int32.lt_iff_toInt_lt.mpr c0
   omega
  have hP79 : o_Pr Z n0 pp rc ru wa tmx frx tl59 lax L2 chx gbx xs59 fs59 rsx h59 := ⟨Ep60, Er60, Ew60, F60_cpus, F60_times, F60_free, F60_head, F60_tail, F60_lastAt, F60_runs, F60_firstKnown, F60_watcher, F60_watchedAs, F60_changes, F60_merged, F60_gaveBack, F60_recent, Fn60, At60, Af60, Ar60, nt60, wl60, gp60, gt60, gf60, gr60, gu60⟩
  obtain ⟨v80, T80, L80, hQ80, X80, st80⟩ := o_callP X59 hx hZ e59 hown (o_m hw 116 rfl) (o_m hw 117 rfl) (o_m hw 8 rfl) (o_m hw 118 rfl) (by decide) (a := pp) Ep60 (o_m hw 119 rfl) (o_m hw 9 rfl) (o_merge l Z a0 hw n0 pp rc ru wa tmx frx tl59 lax L2 chx gbx xs59 fs59 rsx fst h59 hP79 q75 q76 q77 q78) (g := (o_f19 m 173 pp start ending (1 : Int32) kp fst aft kk [(.int fst), (.ref pp)])) rfl (by rw [hml]; rfl) rfl (argsL := [(.int fst)]) (rest := []) rfl (lenOf o_pd3 rfl) rfl (hb hby o_d7_173) (o_b rfl) (o_b rfl) (o_b rfl) (o_b rfl)
  obtain ⟨h80, e80⟩ : ∃ z, T80.heap = z := ⟨_, rfl⟩
  rw [e80] at hQ80
  obtain ⟨tl80, xs80, fs80, rfl, N80, hR80, ma80, mb80, mc80, md80, me80⟩ := hQ80
  have N_80 := Fr.app N_59 N80
  obtain ⟨Ep81, Er81, Ew81, F81_cpus, F81_times, F81_free, F81_head, F81_tail, F81_lastAt, F81_runs, F81_firstKnown, F81_watcher, F81_watchedAs, F81_changes, F81_merged, F81_gaveBack, F81_recent, Fn81, At81, Af81, Ar81, nt81, wl81, gp81, gt81, gf81, gr81, gu81⟩ := hR80
  refine o_q T80 (o_f19 m 176 pp start ending (1 : Int32) kp fst aft kk []) st80 ?_
  have hP96 : o_Pr Z n0 pp rc ru wa tmx frx tl80 lax L2 chx gbx xs80 fs80 rsx h80 := ⟨Ep81, Er81, Ew81, F81_cpus, F81_times, F81_free, F81_head, F81_tail, F81_lastAt, F81_runs, F81_firstKnown, F81_watcher, F81_watchedAs, F81_changes, F81_merged, F81_gaveBack, F81_recent, Fn81, At81, Af81, Ar81, nt81, wl81, gp81, gt81, gf81, gr81, gu81⟩
  have n197 : 1 ≤ tlx.toNatClampNeg := by
   have r1 := rng32 tlx
   have r2 := rng32 kk
   have r3 := rng32 aft
   have d0 : ¬ (kk.toInt < aft.toInt) := mt Int32.lt_iff_toInt_lt.mpr c0
   have n0 := o_nat (tlx) (by omega)
   omega
  have n297 : 1 ≤ tl59.toNatClampNeg := by
   have r1 := rng32 tl59
   have r2 := rng32 kk
   have r3 := rng32 aft
   have d0 : ¬ (kk.toInt < aft.toInt) := mt Int32.lt_iff_toInt_lt.mpr c0
   have n0 := o_nat (tl59) (by omega)
   omega
  have q98 : 1 ≤ tl80.toInt := by
   have r1 := rng32 tl80
   have r2 := rng32 kk
   have r3 := rng32 aft
   have d0 : ¬ (kk.toInt < aft.toInt) := mt Int32.lt_iff_toInt_lt.mpr c0
   omega
  have q99 : tl80.toInt ≤ tlx.toInt := by
   have r1 := rng32 tl80
   have r2 := rng32 tlx
   have r3 := rng32 kk
   have r4 := rng32 aft
   have d0 : ¬ (kk.toInt < aft.toInt) := mt Int32.lt_iff_toInt_lt.mpr c0
   omega
  refine o_retV X80 hx hlk hret (hb hby o_d7_176) ?_ (o_b rfl) (o_b rfl)
  rw [e80]
  exact ⟨tl80, xs80, fs80, rfl, N_80, hP96, q98, q99, (md80.trans md59), (o_Smerge n297 (o_Smerge n197 Sx mc59 me59) mc80 me80)⟩
set_option maxRecDepth 65536 in
set_option maxHeartbeats 40000000 in
theorem o_addG_p1 (l : Launch) (Z : State) (a0 : Array Value) (hw : ∀ d ∈ tables_1, d.before a0 Z = true) (n0 : Nat) (pp rc ru wa tm fr : Addr) (tl la L : Int32) (ch gb : Int64) (xs : Nat → Int64) (fs : Nat → Int32) (rs : Nat → Int64) (L2 : Int32) (start ending : Int64) (cn : Nat) (lo hi lo1 hi1 : Int) (h0 : Heap) (hP : o_Pr Z n0 pp rc ru wa tm fr tl la L ch gb xs fs rs h0) (i1 : 1 ≤ tl.toInt) (i2 : tl.toInt ≤ L.toInt) (i3 : L2.toInt ≤ 32) (i4 : tl.toInt + 2 ≤ L2.toInt) (lz : L2 = ((2 : Int32) * L)) (lq : L2.toInt = 2 * L.toInt) (lh : (L / (2 : Int32)).toInt ≤ L.toInt) (lv : 4 ≤ L.toInt) (lw : L.toInt ≤ 16) (i5 : L.toInt < tl.toInt + 2) (hse : start < ending) (hc : ch.toInt = (cn : Int)) (hc2 : cn ≤ 100) (Dd : o_D lo hi lo1 hi1 (1)) (Sg : o_S lo hi tl.toNatClampNeg xs fs) (hz : hi ≤ 15 → ¬ start < xs 0) :
  o_C l (⟨o_n1, "add", "(JJI)V"⟩ : MethodName) o_y12 10 none (o_R 5 2 64 100) Z h0 #[(.ref pp), (.long start), (.long ending), (.int (1 : Int32))] (fun v h Ls => ∃ (tm' fr' : Addr) (tl' la' : Int32) (xs' : Nat → Int64) (fs' : Nat → Int32), v = none ∧ Fr n0 Ls ∧ o_Pr Z n0 pp rc ru wa tm' fr' tl' la' L2 (ch + (1 : Int64)) (ch + (1 : Int64)) xs' fs' (o_put rs (cn + 1) start ending (1 : Int64)) h ∧ 1 ≤ tl'.toInt ∧ tl'.toInt ≤ tl.toInt + 2 ∧ xs' 0 = xs 0 ∧ o_S lo1 hi1 tl'.toNatClampNeg xs' fs') := by
 refine o_body o_pn7 ?_
 intro p e s m below meth c s₁ hx hby hml hZ hown hnm hret hlk X0 e0
 refine o_cast (f' := (o_f20 m 0 pp start ending (1 : Int32) [])) (by first | (simp [entryFrame, mkF, argsToLocals, Value.category, maxLocals]; done) | rfl) ?_
 obtain ⟨Ep1, Er1, Ew1, F1_cpus, F1_times, F1_free, F1_head, F1_tail, F1_lastAt, F1_runs, F1_firstKnown, F1_watcher, F1_watchedAs, F1_changes, F1_merged, F1_gaveBack, F1_recent, Fn1, At1, Af1, Ar1, nt1, wl1, gp1, gt1, gf1, gr1, gu1⟩ := hP
 refine o_q s₁ (o_f20 m 1 pp start ending (1 : Int32) [(.long start)]) (fun _ k9 => XS.lloadN X0.here hx rfl (hb hby o_d7_0) rfl k9) ?_
 refine o_q s₁ (o_f20 m 2 pp start ending (1 : Int32) [(.long ending), (.long start)]) (fun _ k9 => XS.lloadN X0.here hx rfl (hb hby o_d7_1) rfl k9) ?_
 refine o_q s₁ (o_f20 m 3 pp start ending (1 : Int32) [(.int (lcmpW start ending))]) (fun _ k9 => XS.lcmp X0.here hx rfl (hb hby o_d7_2) rfl k9) ?_
 refine o_fY 7 X0 hx hby o_d7_3 ((if0 _ _).trans (tlt ((lw_lt _ _).mpr hse)).1) ?_
 refine o_q s₁ (o_f20 m 8 pp start ending (1 : Int32) [(.ref pp)]) (fun _ k9 => XS.aloadN X0.here hx rfl (hb hby o_d7_7) rfl rfl k9) ?_
 have hP16 : o_Pr Z n0 pp rc ru wa tm fr tl la L ch gb xs fs rs h0 := ⟨Ep1, Er1, Ew1, F1_cpus, F1_times, F1_free, F1_head, F1_tail, F1_lastAt, F1_runs, F1_firstKnown, F1_watcher, F1_watchedAs, F1_changes, F1_merged, F1_gaveBack, F1_recent, Fn1, At1, Af1, Ar1, nt1, wl1, gp1, gt1, gf1, gr1, gu1⟩
 obtain ⟨v17, T17, L17, hQ17, X17, st17⟩ := o_callP X0 hx hZ e0 hown (o_m hw 61 rfl) (o_m hw 62 rfl) (o_m hw 8 rfl) (o_m hw 63 rfl) (by decide) (a := pp) Ep1 (o_m hw 64 rfl) (o_m hw 9 rfl) (o_counts l Z a0 hw n0 pp rc ru wa tm fr tl la L ch gb xs fs rs  h0 hP16 ) (g := (o_f20 m 8 pp start ending (1 : Int32) [(.ref pp)])) rfl (by rw [hml]; rfl) rfl (argsL := []) (rest := []) rfl (lenOf o_pd0 rfl) rfl (hb hby o_d7_8) (o_b rfl) (o_b rfl) (o_b rfl) (o_b rfl)
 obtain ⟨h17, e17⟩ : ∃ z, T17.heap = z := ⟨_, rfl⟩
 rw [e17] at hQ17
 obtain ⟨rfl, N17, hR17⟩ := hQ17
 have N_17 := Fr.app (Fr.nil _) N17
 obtain ⟨Ep18, Er18, Ew18, F18_cpus, F18_times, F18_free, F18_head, F18_tail, F18_lastAt, F18_runs, F18_firstKnown, F18_watcher, F18_watchedAs, F18_changes, F18_merged, F18_gaveBack, F18_recent, Fn18, At18, Af18, Ar18, nt18, wl18, gp18, gt18, gf18, gr18, gu18⟩ := hR17
 have ne19 : o_ne pp ru := Ep18.ne Er18 (by decide)
 have ne20 : o_ne pp tm := At18.neExa Ep18 (o_m hw 8 rfl)
 have ne22 : o_ne pp fr := Af18.neExa Ep18 (o_m hw 8 rfl)
 have ne24 : o_ne pp rc := Ar18.neExa Ep18 (o_m hw 8 rfl)
 have ne25 : o_ne ru rc := Ar18.neExa Er18 (o_m hw 17 rfl)
 have ne32 : o_ne fr rc := Af18.ne Ar18 (by intro q; cases q)
 refine o_q T17 (o_f20 m 11 pp start ending (1 : Int32) []) st17 ?_
 refine o_iC (3 : Int32) X17 hx hby o_d7_11 rfl ?_
 refine o_q T17 (o_f20 m 13 pp start ending (1 : Int32) [(.ref pp), (.int (3 : Int32))]) (fun _ k9 => XS.aloadN X17.here hx rfl (hb hby o_d7_12) rfl rfl k9) ?_
 refine o_q T17 (o_f20 m 14 pp start ending (1 : Int32) [(.ref pp), (.ref pp), (.int (3 : Int32))]) (fun _ k9 => XS.dup X17.here hx rfl (hb hby o_d7_13) rfl rfl k9) ?_
 refine o_gF X17 hx hZ e17 hby hown (o_m hw 79 rfl) F18_changes o_d7_14 fun T33 X33 e33 => ?_
 refine o_lC (1 : Int64) X33 hx hby o_d7_17 rfl ?_
 refine o_q T33 (o_f20 m 19 pp start ending (1 : Int32) [(.long (ch + (1 : Int64))), (.ref pp), (.int (3 : Int32))]) (fun _ k9 => XS.ladd X33.here hx rfl (hb hby o_d7_18) rfl k9) ?_
 refine o_q T33 (o_f20 m 20 pp start ending (1 : Int32) [(.long (ch + (1 : Int64))), (.ref pp), (.long (ch + (1 : Int64))), (.int (3 : Int32))]) (fun _ k9 => by jvm_step X33.here [X33.here.top, hx, (hb hby o_d7_19), Value.category]; exact k9) ?_
 refine o_pF X33 hx hZ e33 hby (ty := .long) hown (o_m hw 79 rfl) F18_changes Ep18 (Or.inl (o_m hw 80 rfl)) (o_m hw 8 rfl) (by decide) rfl rfl o_d7_20 fun T34 h34 X34 e34 W34 => ?_
 have Fw34 := F18_changes.same W34
 have N_34 := Fr.snoc X34 N_17 gp18
 have Y35 := Ep18.wr W34
 have Y36 := Er18.wr W34
 have Y37 := Ew18.wr W34
 have Y38 := F18_cpus.other W34 (o_sn (Or.inr (o_m hw 41 rfl)) (Or.inl (o_m hw 80 rfl)))
 have Y39 := F18_times.other W34 (o_sn (Or.inl (o_m hw 44 rfl)) (Or.inl (o_m hw 80 rfl)))
 have Y40 := F18_free.other W34 (o_sn (Or.inl (o_m hw 47 rfl)) (Or.inl (o_m hw 80 rfl)))
 have Y41 := F18_head.other W34 (o_sn (Or.inl (o_m hw 95 rfl)) (Or.inl (o_m hw 80 rfl)))
 have Y42 := F18_tail.other W34 (o_sn (Or.inl (o_m hw 49 rfl)) (Or.inl (o_m hw 80 rfl)))
 have Y43 := F18_lastAt.other W34 (o_sn (Or.inl (o_m hw 149 rfl)) (Or.inl (o_m hw 80 rfl)))
 have Y44 := F18_runs.other W34 (o_sn (Or.inr (o_m hw 26 rfl)) (Or.inl (o_m hw 80 rfl)))
 have Y45 := F18_firstKnown.other W34 (o_sn (Or.inl (o_m hw 66 rfl)) (Or.inl (o_m hw 80 rfl)))
 have Y46 := F18_watcher.other W34 (o_sn (Or.inl (o_m hw 39 rfl)) (Or.inl (o_m hw 80 rfl)))
 have Y47 := F18_watchedAs.other W34 (o_sn (Or.inl (o_m hw 68 rfl)) (Or.inl (o_m hw 80 rfl)))
 have Y49 := F18_merged.other W34 (o_sn (Or.inl (o_m hw 177 rfl)) (Or.inl (o_m hw 80 rfl)))
 have Y50 := F18_gaveBack.other W34 (o_sn (Or.inl (o_m hw 179 rfl)) (Or.inl (o_m hw 80 rfl)))
 have Y51 := F18_recent.other W34 (o_sn (Or.inr (o_m hw 35 rfl)) (Or.inl (o_m hw 80 rfl)))
 have Y52 := Fn18.other W34 (Or.inl (Ne.symm ne19))
 have Y53 := At18.other W34 (Ne.symm ne20)
 have Y54 := Af18.other W34 (Ne.symm ne22)
 have Y55 := Ar18.other W34 (Ne.symm ne24)
 refine o_q T34 (o_f20 m 26 pp start ending (1 : Int32) [(.long (8 : Int64)), (.long (ch + (1 : Int64))), (.int (3 : Int32))]) (fun _ k9 => X34.ldc2Long hx hown (mvT hZ (o_m hw 81 rfl)) (g := (o_f20 m 23 pp start ending (1 : Int32) [(.long (ch + (1 : Int64))), (.int (3 : Int32))])) rfl (hb hby o_d7_23) _ k9) ?_
 refine o_q T34 (o_f20 m 27 pp start ending (1 : Int32) [(.long ((ch + (1 : Int64)) - ((ch + (1 : Int64)) / (8 : Int64)) * (8 : Int64))), (.int (3 : Int32))]) (fun _ k9 => XS.lrem X34.here hx rfl (hb hby o_d7_26) rfl (by decide) k9) ?_
 refine o_q T34 (o_f20 m 28 pp start ending (1 : Int32) [(.int (((ch + (1 : Int64)) - ((ch + (1 : Int64)) / (8 : Int64)) * (8 : Int64))).toInt32), (.int (3 : Int32))]) (fun _ k9 => XS.l2i X34.here hx rfl (hb hby o_d7_27) rfl k9) ?_
 refine o_q T34 (o_f20 m 29 pp start ending (1 : Int32) [(.int ((3 : Int32) * (((ch + (1 : Int64)) - ((ch + (1 : Int64)) / (8 : Int64)) * (8 : Int64))).toInt32))]) (fun _ k9 => XS.imul X34.here hx rfl (hb hby o_d7_28) rfl k9) ?_
 obtain ⟨kp, h_kp⟩ : ∃ z, z = ((3 : Int32) * (((ch + (1 : Int64)) - ((ch + (1 : Int64)) / (8 : Int64)) * (8 : Int64))).toInt32) := ⟨_, rfl⟩
 rw [← h_kp]
 obtain ⟨q8, hq8⟩ : ∃ z, z = (cn + 1) % 8 := ⟨_, rfl⟩
 have hk8 : q8 < 8 := hq8 ▸ Nat.mod_lt _ (by decide)
 have hkp : kp.toInt = 3 * (q8 : Int) := by rw [h_kp, o_kept ch cn hc hc2, ← hq8]; rfl
 refine o_q T34 (o_f21 m 31 pp start ending (1 : Int32) kp []) (fun _ k9 => XS.istore X34.here hx rfl (hb hby o_d7_29) rfl (l' := (o_t21 pp start ending (1 : Int32) kp)) rfl k9) ?_
 refine o_q T34 (o_f21 m 32 pp start ending (1 : Int32) kp [(.ref pp)]) (fun _ k9 => XS.aloadN X34.here hx rfl (hb hby o_d7_31) rfl rfl k9) ?_
 refine o_gF X34 hx hZ e34 hby hown (o_m hw 34 rfl) Y51 o_d7_32 fun T56 X56 e56 => ?_
 refine o_q T56 (o_f21 m 37 pp start ending (1 : Int32) kp [(.int kp), (.ref rc)]) (fun _ k9 => XS.iload X56.here hx rfl (hb hby o_d7_35) rfl k9) ?_
 refine o_q T56 (o_f21 m 38 pp start ending (1 : Int32) kp [(.long start), (.int kp), (.ref rc)]) (fun _ k9 => XS.lloadN X56.here hx rfl (hb hby o_d7_37) rfl k9) ?_
 have hin57 : ¬ (kp < (0 : Int32)) ∧ kp < (24 : Int32) := by
  have r1 := rng32 kp
  have k2 : (24 : Int32).toInt = 24 := by decide
  have k3 : (0 : Int32).toInt = 0 := by decide
  rw [Int32.lt_iff_toInt_lt, Int32.lt_iff_toInt_lt]
  omega
 refine o_tJ X56 hx hZ e56 hby Y55 hin57 o_d7_38 fun T58 h58 X58 e58 W58 A58 => ?_
 obtain ⟨f58, d_f58⟩ : ∃ z : Nat → Int64, z = (fun i => if i = kp.toNatClampNeg then start else rs i) := ⟨_, rfl⟩
 rw [← d_f58] at A58
 have N_58 := Fr.snoc X58 N_34 gr18
 have Y59 := Y35.wr W58
 have Y60 := Y36.wr W58
 have Y61 := Y37.wr W58
 have Y62 := Y38.other W58 (Or.inl ne24)
 have Y63 := Y39.other W58 (Or.inl ne24)
 have Y64 := Y40.other W58 (Or.inl ne24)
 have Y65 := Y41.other W58 (Or.inl ne24)
 have Y66 := Y42.other W58 (Or.inl ne24)
 have Y67 := Y43.other W58 (Or.inl ne24)
 have Y68 := Y44.other W58 (Or.inl ne24)
 have Y69 := Y45.other W58 (Or.inl ne24)
 have Y70 := Y46.other W58 (Or.inl ne24)
 have Y71 := Y47.other W58 (Or.inl ne24)
 have Y72 := Fw34.other W58 (Or.inl ne24)
 have Y73 := Y49.other W58 (Or.inl ne24)
 have Y74 := Y50.other W58 (Or.inl ne24)
 have Y75 := Y51.other W58 (Or.inl ne24)
 have Y76 := Y52.other W58 (Or.inl ne25)
 have Y77 := Y53.other W58 nt18
 have Y78 := Y54.other W58 ne32
 refine o_q T58 (o_f21 m 40 pp start ending (1 : Int32) kp [(.ref pp)]) (fun _ k9 => XS.aloadN X58.here hx rfl (hb hby o_d7_39) rfl rfl k9) ?_
 refine o_gF X58 hx hZ e58 hby hown (o_m hw 34 rfl) Y75 o_d7_40 fun T80 X80 e80 => ?_
 refine o_q T80 (o_f21 m 45 pp start ending (1 : Int32) kp [(.int kp), (.ref rc)]) (fun _ k9 => XS.iload X80.here hx rfl (hb hby o_d7_43) rfl k9) ?_
 refine o_iC (1 : Int32) X80 hx hby o_d7_45 rfl ?_
 refine o_q T80 (o_f21 m 47 pp start ending (1 : Int32) kp [(.int (kp + (1 : Int32))), (.ref rc)]) (fun _ k9 => XS.iadd X80.here hx rfl (hb hby o_d7_46) rfl k9) ?_
 refine o_q T80 (o_f21 m 48 pp start ending (1 : Int32) kp [(.long ending), (.int (kp + (1 : Int32))), (.ref rc)]) (fun _ k9 => XS.lloadN X80.here hx rfl (hb hby o_d7_47) rfl k9) ?_
 have hin81 : ¬ ((kp + (1 : Int32)) < (0 : Int32)) ∧ (kp + (1 : Int32)) < (24 : Int32) := by
  have r1 := rng32 kp
  have k2 : (1 : Int32).toInt = 1 := by decide
  have e3 : ((kp + (1 : Int32))).toInt = kp.toInt + 1 := by
   rw [Jvm.Free.XT.add32 ⟨by rw [show (1 : Int32).toInt = 1 from by decide]; omega, by rw [show (1 : Int32).toInt = 1 from by decide]; omega⟩]; rw [show (1 : Int32).toInt = 1 from by decide]
  have k4 : (24 : Int32).toInt = 24 := by decide
  have k5 : (0 : Int32).toInt = 0 := by decide
  rw [Int32.lt_iff_toInt_lt, Int32.lt_iff_toInt_lt]
  omega
 refine o_tJ X80 hx hZ e80 hby A58 hin81 o_d7_48 fun T82 h82 X82 e82 W82 A82 => ?_
 obtain ⟨f82, d_f82⟩ : ∃ z : Nat → Int64, z = (fun i => if i = ((kp + (1 : Int32))).toNatClampNeg then ending else f58 i) := ⟨_, rfl⟩
 rw [← d_f82] at A82
 have N_82 := Fr.snoc X82 N_58 gr18
 have Y83 := Y59.wr W82
 have Y84 := Y60.wr W82
 have Y85 := Y61.wr W82
 have Y86 := Y62.other W82 (Or.inl ne24)
 have Y87 := Y63.other W82 (Or.inl ne24)
 have Y88 := Y64.other W82 (Or.inl ne24)
 have Y89 := Y65.other W82 (Or.inl ne24)
 have Y90 := Y66.other W82 (Or.inl ne24)
 have Y91 := Y67.other W82 (Or.inl ne24)
 have Y92 := Y68.other W82 (Or.inl ne24)
 have Y93 := Y69.other W82 (Or.inl ne24)
 have Y94 := Y70.other W82 (Or.inl ne24)
 have Y95 := Y71.other W82 (Or.inl ne24)
 have Y96 := Y72.other W82 (Or.inl ne24)
 have Y97 := Y73.other W82 (Or.inl ne24)
 have Y98 := Y74.other W82 (Or.inl ne24)
 have Y99 := Y75.other W82 (Or.inl ne24)
 have Y100 := Y76.other W82 (Or.inl ne25)
 have Y101 := Y77.other W82 nt18
 have Y102 := Y78.other W82 ne32
 refine o_q T82 (o_f21 m 50 pp start ending (1 : Int32) kp [(.ref pp)]) (fun _ k9 => XS.aloadN X82.here hx rfl (hb hby o_d7_49) rfl rfl k9) ?_
 refine o_gF X82 hx hZ e82 hby hown (o_m hw 34 rfl) Y99 o_d7_50 fun T104 X104 e104 => ?_
 refine o_q T104 (o_f21 m 55 pp start ending (1 : Int32) kp [(.int kp), (.ref rc)]) (fun _ k9 => XS.iload X104.here hx rfl (hb hby o_d7_53) rfl k9) ?_
 refine o_iC (2 : Int32) X104 hx hby o_d7_55 rfl ?_
 refine o_q T104 (o_f21 m 57 pp start ending (1 : Int32) kp [(.int (kp + (2 : Int32))), (.ref rc)]) (fun _ k9 => XS.iadd X104.here hx rfl (hb hby o_d7_56) rfl k9) ?_
 refine o_q T104 (o_f21 m 59 pp start ending (1 : Int32) kp [(.int (1 : Int32)), (.int (kp + (2 : Int32))), (.ref rc)]) (fun _ k9 => XS.iload X104.here hx rfl (hb hby o_d7_57) rfl k9) ?_
 refine o_fN X104 hx hby o_d7_59 ((if0 _ _).trans (tlt (by decide : (0 : Int32) < (1 : Int32))).2.2.2) ?_
 refine o_lC (1 : Int64) X104 hx hby o_d7_62 rfl ?_
 refine o_go 67 X104 hx hby o_d7_63 ?_
 have hin105 : ¬ ((kp + (2 : Int32)) < (0 : Int32)) ∧ (kp + (2 : Int32)) < (24 : Int32) := by
  have r1 := rng32 kp
  have k2 : (2 : Int32).toInt = 2 := by decide
  have e3 : ((kp + (2 : Int32))).toInt = kp.toInt + 2 := by
   rw [Jvm.Free.XT.add32 ⟨by rw [show (2 : Int32).toInt = 2 from by decide]; omega, by rw [show (2 : Int32).toInt = 2 from by decide]; omega⟩]; rw [show (2 : Int32).toInt = 2 from by decide]
  have k4 : (24 : Int32).toInt = 24 := by decide
  have k5 : (0 : Int32).toInt = 0 := by decide
  rw [Int32.lt_iff_toInt_lt, Int32.lt_iff_toInt_lt]
  omega
 refine o_tJ X104 hx hZ e104 hby A82 hin105 o_d7_67 fun T106 h106 X106 e106 W106 A106 => ?_
 obtain ⟨f106, d_f106⟩ : ∃ z : Nat → Int64, z = (fun i => if i = ((kp + (2 : Int32))).toNatClampNeg then (1 : Int64) else f82 i) := ⟨_, rfl⟩
 rw [← d_f106] at A106
 have N_106 := Fr.snoc X106 N_82 gr18
 have Y107 := Y83.wr W106
 have Y108 := Y84.wr W106
 have Y109 := Y85.wr W106
 have Y110 := Y86.other W106 (Or.inl ne24)
 have Y111 := Y87.other W106 (Or.inl ne24)
 have Y112 := Y88.other W106 (Or.inl ne24)
 have Y113 := Y89.other W106 (Or.inl ne24)
 have Y114 := Y90.other W106 (Or.inl ne24)
 have Y115 := Y91.other W106 (Or.inl ne24)
 have Y116 := Y92.other W106 (Or.inl ne24)
 have Y117 := Y93.other W106 (Or.inl ne24)
 have Y118 := Y94.other W106 (Or.inl ne24)
 have Y119 := Y95.other W106 (Or.inl ne24)
 have Y120 := Y96.other W106 (Or.inl ne24)
 have Y121 := Y97.other W106 (Or.inl ne24)
 have Y122 := Y98.other W106 (Or.inl ne24)
 have Y123 := Y99.other W106 (Or.inl ne24)
 have Y124 := Y100.other W106 (Or.inl ne25)
 have Y125 := Y101.other W106 nt18
 have Y126 := Y102.other W106 ne32
 have ja : kp.toNatClampNeg = 3 * q8 := by
  have r1 := rng32 kp
  have n0 := o_nat (kp) (by omega)
  omega
 have jb : ((kp + (1 : Int32))).toNatClampNeg = 3 * q8 + 1 := by
  have r1 := rng32 kp
  have k2 : (1 : Int32).toInt = 1 := by decide
  have e3 : ((kp + (1 : Int32))).toInt = kp.toInt + 1 := by
   rw [Jvm.Free.XT.add32 ⟨by rw [show (1 : Int32).toInt = 1 from by decide]; omega, by rw [show (1 : Int32).toInt = 1 from by decide]; omega⟩]; rw [show (1 : Int32).toInt = 1 from by decide]
  have n0 := o_nat ((kp + (1 : Int32))) (by omega)
  omega
 have jc : ((kp + (2 : Int32))).toNatClampNeg = 3 * q8 + 2 := by
  have r1 := rng32 kp
  have k2 : (2 : Int32).toInt = 2 := by decide
  have e3 : ((kp + (2 : Int32))).toInt = kp.toInt + 2 := by
   rw [Jvm.Free.XT.add32 ⟨by rw [show (2 : Int32).toInt = 2 from by decide]; omega, by rw [show (2 : Int32).toInt = 2 from by decide]; omega⟩]; rw [show (2 : Int32).toInt = 2 from by decide]
  have n0 := o_nat ((kp + (2 : Int32))) (by omega)
  omega
 have RC : o_LA Z h106 rc (24 : Int32) (o_put rs (cn + 1) start ending (1 : Int64)) := A106.congr fun i _ => by
  rw [d_f106, d_f82, d_f58]
  dsimp only [o_put]
  rw [ja, jb, jc, hq8]
 refine o_q T106 (o_f21 m 70 pp start ending (1 : Int32) kp [(.int (1 : Int32))]) (fun _ k9 => XS.iload X106.here hx rfl (hb hby o_d7_68) rfl k9) ?_
 refine o_fN X106 hx hby o_d7_70 ((if0 _ _).trans (tlt (by decide : (0 : Int32) < (1 : Int32))).2.2.2) ?_
 refine o_q T106 (o_f21 m 74 pp start ending (1 : Int32) kp [(.ref pp)]) (fun _ k9 => XS.aloadN X106.here hx rfl (hb hby o_d7_73) rfl rfl k9) ?_
 refine o_q T106 (o_f21 m 75 pp start ending (1 : Int32) kp [(.ref pp), (.ref pp)]) (fun _ k9 => XS.aloadN X106.here hx rfl (hb hby o_d7_74) rfl rfl k9) ?_
 refine o_gF X106 hx hZ e106 hby hown (o_m hw 79 rfl) Y120 o_d7_75 fun T128 X128 e128 => ?_
 refine o_pF X128 hx hZ e128 hby (ty := .long) hown (o_m hw 178 rfl) Y122 Y107 (Or.inl (o_m hw 179 rfl)) (o_m hw 8 rfl) (by decide) rfl rfl o_d7_78 fun T129 h129 X129 e129 W129 => ?_
 have Fw129 := Y122.same W129
 have N_129 := Fr.snoc X129 N_106 gp18
 have Y130 := Y107.wr W129
 have Y131 := Y108.wr W129
 have Y132 := Y109.wr W129
 have Y133 := Y110.other W129 (o_sn (Or.inr (o_m hw 41 rfl)) (Or.inl (o_m hw 179 rfl)))
 have Y134 := Y111.other W129 (o_sn (Or.inl (o_m hw 44 rfl)) (Or.inl (o_m hw 179 rfl)))
 have Y135 := Y112.other W129 (o_sn (Or.inl (o_m hw 47 rfl)) (Or.inl (o_m hw 179 rfl)))
 have Y136 := Y113.other W129 (o_sn (Or.inl (o_m hw 95 rfl)) (Or.inl (o_m hw 179 rfl)))
 have Y137 := Y114.other W129 (o_sn (Or.inl (o_m hw 49 rfl)) (Or.inl (o_m hw 179 rfl)))
 have Y138 := Y115.other W129 (o_sn (Or.inl (o_m hw 149 rfl)) (Or.inl (o_m hw 179 rfl)))
 have Y139 := Y116.other W129 (o_sn (Or.inr (o_m hw 26 rfl)) (Or.inl (o_m hw 179 rfl)))
 have Y140 := Y117.other W129 (o_sn (Or.inl (o_m hw 66 rfl)) (Or.inl (o_m hw 179 rfl)))
 have Y141 := Y118.other W129 (o_sn (Or.inl (o_m hw 39 rfl)) (Or.inl (o_m hw 179 rfl)))
 have Y142 := Y119.other W129 (o_sn (Or.inl (o_m hw 68 rfl)) (Or.inl (o_m hw 179 rfl)))
 have Y143 := Y120.other W129 (o_sn (Or.inl (o_m hw 80 rfl)) (Or.inl (o_m hw 179 rfl)))
 have Y144 := Y121.other W129 (o_sn (Or.inl (o_m hw 177 rfl)) (Or.inl (o_m hw 179 rfl)))
 have Y146 := Y123.other W129 (o_sn (Or.inr (o_m hw 35 rfl)) (Or.inl (o_m hw 179 rfl)))
 have Y147 := Y124.other W129 (Or.inl (Ne.symm ne19))
 have Y148 := Y125.other W129 (Ne.symm ne20)
 have Y149 := Y126.other W129 (Ne.symm ne22)
 have Y150 := RC.other W129 (Ne.symm ne24)
 refine o_q T129 (o_f21 m 82 pp start ending (1 : Int32) kp [(.ref pp)]) (fun _ k9 => XS.aloadN X129.here hx rfl (hb hby o_d7_81) rfl rfl k9) ?_
 refine o_q T129 (o_f21 m 83 pp start ending (1 : Int32) kp [(.ref pp), (.ref pp)]) (fun _ k9 => XS.aloadN X129.here hx rfl (hb hby o_d7_82) rfl rfl k9) ?_
 refine o_gF X129 hx hZ e129 hby hown (o_m hw 48 rfl) Y137 o_d7_83 fun T151 X151 e151 => ?_
 refine o_iC (2 : Int32) X151 hx hby o_d7_86 rfl ?_
 refine o_q T151 (o_f21 m 88 pp start ending (1 : Int32) kp [(.int (tl + (2 : Int32))), (.ref pp)]) (fun _ k9 => XS.iadd X151.here hx rfl (hb hby o_d7_87) rfl k9) ?_
 have hP152 : o_Pr Z n0 pp rc ru wa tm fr tl la L (ch + (1 : Int64)) (ch + (1 : Int64)) xs fs (o_put rs (cn + 1) start ending (1 : Int64)) h129 := ⟨Y130, Y131, Y132, Y133, Y134, Y135, Y136, Y137, Y138, Y139, Y140, Y141, Y142, Y143, Y144, Fw129, Y146, Y147, Y148, Y149, Y150, nt18, wl18, gp18, gt18, gf18, gr18, gu18⟩
 have q153 : 1 ≤ tl.toInt := by
  have r1 := rng32 tl
  omega
 have q154 : tl.toInt ≤ L.toInt := by
  have r1 := rng32 tl
  omega
 have q155 : L.toInt < ((tl + (2 : Int32))).toInt := by
  have r1 := rng32 tl
  have k2 : (2 : Int32).toInt = 2 := by decide
  have e3 : ((tl + (2 : Int32))).toInt = tl.toInt + 2 := by
   rw [Jvm.Free.XT.add32 ⟨by rw [show (2 : Int32).toInt = 2 from by decide]; omega, by rw [show (2 : Int32).toInt = 2 from by decide]; omega⟩]; rw [show (2 : Int32).toInt = 2 from by decide]
  omega
 have q156 : ((tl + (2 : Int32))).toInt = tl.toInt + 2 := by
  have r1 := rng32 tl
  have k2 : (2 : Int32).toInt = 2 := by decide
  have e3 : ((tl + (2 : Int32))).toInt = tl.toInt + 2 := by
   rw [Jvm.Free.XT.add32 ⟨by rw [show (2 : Int32).toInt = 2 from by decide]; omega, by rw [show (2 : Int32).toInt = 2 from by decide]; omega⟩]; rw [show (2 : Int32).toInt = 2 from by decide]
  omega
 obtain ⟨v157, T157, L157, hQ157, X157, st157⟩ := o_callP X151 hx hZ e151 hown (o_m hw 82 rfl) (o_m hw 83 rfl) (o_m hw 8 rfl) (o_m hw 84 rfl) (by decide) (a := pp) Y130 (o_m hw 85 rfl) (o_m hw 9 rfl) (o_room1 l Z a0 hw n0 pp rc ru wa tm fr tl la L (ch + (1 : Int64)) (ch + (1 : Int64)) xs fs (o_put rs (cn + 1) start ending (1 : Int64)) L2 (tl + (2 : Int32)) h129 hP152 lz lq lh lv lw q153 q154 q155 q156) (g := (o_f21 m 88 pp start ending (1 : Int32) kp [(.int (tl + (2 : Int32))), (.ref pp)])) rfl (by rw [hml]; rfl) rfl (argsL := [(.int (tl + (2 : Int32)))]) (rest := []) rfl (lenOf o_pd1 rfl) rfl (hb hby o_d7_88) (o_b rfl) (o_b rfl) (o_b rfl) (o_b rfl)
 obtain ⟨h157, e157⟩ : ∃ z, T157.heap = z := ⟨_, rfl⟩
 rw [e157] at hQ157
 obtain ⟨tm157, fr157, xs157, fs157, rfl, N157, hR157, ra157, rb157⟩ := hQ157
 have N_157 := Fr.app N_129 N157
 obtain ⟨Ep158, Er158, Ew158, F158_cpus, F158_times, F158_free, F158_head, F158_tail, F158_lastAt, F158_runs, F158_firstKnown, F158_watcher, F158_watchedAs, F158_changes, F158_merged, F158_gaveBack, F158_recent, Fn158, At158, Af158, Ar158, nt158, wl158, gp158, gt158, gf158, gr158, gu158⟩ := hR157
 refine o_q T157 (o_f21 m 91 pp start ending (1 : Int32) kp [(.int (0 : Int32))]) st157 ?_
 refine o_q T157 (o_f21 m 92 pp start ending (1 : Int32) kp []) (fun _ k9 => XS.pop X157.here hx rfl (hb hby o_d7_91) rfl rfl k9) ?_
 refine o_q T157 (o_f21 m 93 pp start ending (1 : Int32) kp [(.ref pp)]) (fun _ k9 => XS.aloadN X157.here hx rfl (hb hby o_d7_92) rfl rfl k9) ?_
 refine o_q T157 (o_f21 m 94 pp start ending (1 : Int32) kp [(.long start), (.ref pp)]) (fun _ k9 => XS.lloadN X157.here hx rfl (hb hby o_d7_93) rfl k9) ?_
 have q173 : 1 ≤ tl.toInt := by
  have r1 := rng32 tl
  omega
 have q174 : tl.toInt ≤ L2.toInt := by
  have r1 := rng32 tl
  have r2 := rng32 L2
  omega
 have q175 : L2.toInt ≤ 32 := by
  have r1 := rng32 L2
  omega
 have q176 : tl.toInt + 1 ≤ L2.toInt := by
  have r1 := rng32 tl
  have r2 := rng32 L2
  omega
 have hP177 : o_Pr Z n0 pp rc ru wa tm157 fr157 tl la L2 (ch + (1 : Int64)) (ch + (1 : Int64)) xs157 fs157 (o_put rs (cn + 1) start ending (1 : Int64)) h157 := ⟨Ep158, Er158, Ew158, F158_cpus, F158_times, F158_free, F158_head, F158_tail, F158_lastAt, F158_runs, F158_firstKnown, F158_watcher, F158_watchedAs, F158_changes, F158_merged, F158_gaveBack, F158_recent, Fn158, At158, Af158, Ar158, nt158, wl158, gp158, gt158, gf158, gr158, gu158⟩
 obtain ⟨v178, T178, L178, hQ178, X178, st178⟩ := o_callP X157 hx hZ e157 hown (o_m hw 86 rfl) (o_m hw 87 rfl) (o_m hw 8 rfl) (o_m hw 88 rfl) (by decide) (a := pp) Ep158 (o_m hw 89 rfl) (o_m hw 9 rfl) (o_split l Z a0 hw n0 pp rc ru wa tm157 fr157 tl la L2 (ch + (1 : Int64)) (ch + (1 : Int64)) xs157 fs157 (o_put rs (cn + 1) start ending (1 : Int64)) start h157 hP177 q173 q174 q175 q176) (g := (o_f21 m 94 pp start ending (1 : Int32) kp [(.long start), (.ref pp)])) rfl (by rw [hml]; rfl) rfl (argsL := [(.long start)]) (rest := []) rfl (lenOf o_pd8 rfl) rfl (hb hby o_d7_94) (o_b rfl) (o_b rfl) (o_b rfl) (o_b rfl)
 obtain ⟨h178, e178⟩ : ∃ z, T178.heap = z := ⟨_, rfl⟩
 rw [e178] at hQ178
 obtain ⟨r178, tl178, la178, xs178, fs178, rfl, N178, hR178, pa178, pb178, pc178, pd178, pe178, pf178, pg178, ph178⟩ := hQ178
 have N_178 := Fr.app N_157 N178
 obtain ⟨Ep179, Er179, Ew179, F179_cpus, F179_times, F179_free, F179_head, F179_tail, F179_lastAt, F179_runs, F179_firstKnown, F179_watcher, F179_watchedAs, F179_changes, F179_merged, F179_gaveBack, F179_recent, Fn179, At179, Af179, Ar179, nt179, wl179, gp179, gt179, gf179, gr179, gu179⟩ := hR178
 refine o_q T178 (o_f21 m 97 pp start ending (1 : Int32) kp [(.int r178)]) st178 ?_
 refine o_q T178 (o_f22 m 99 pp start ending (1 : Int32) kp r178 []) (fun _ k9 => XS.istore X178.here hx rfl (hb hby o_d7_97) rfl (l' := (o_t22 pp start ending (1 : Int32) kp r178)) rfl k9) ?_
 refine o_q T178 (o_f22 m 100 pp start ending (1 : Int32) kp r178 [(.ref pp)]) (fun _ k9 => XS.aloadN X178.here hx rfl (hb hby o_d7_99) rfl rfl k9) ?_
 refine o_q T178 (o_f22 m 101 pp start ending (1 : Int32) kp r178 [(.long ending), (.ref pp)]) (fun _ k9 => XS.lloadN X178.here hx rfl (hb hby o_d7_100) rfl k9) ?_
 have q194 : 1 ≤ tl178.toInt := by
  have r1 := rng32 tl178
  omega
 have q195 : tl178.toInt ≤ L2.toInt := by
  have r1 := rng32 tl178
  have r2 := rng32 L2
  omega
 have q196 : L2.toInt ≤ 32 := by
  have r1 := rng32 L2
  omega
 have q197 : tl178.toInt + 1 ≤ L2.toInt := by
  have r1 := rng32 tl178
  have r2 := rng32 L2
  omega
 have hP198 : o_Pr Z n0 pp rc ru wa tm157 fr157 tl178 la178 L2 (ch + (1 : Int64)) (ch + (1 : Int64)) xs178 fs178 (o_put rs (cn + 1) start ending (1 : Int64)) h178 := ⟨Ep179, Er179, Ew179, F179_cpus, F179_times, F179_free, F179_head, F179_tail, F179_lastAt, F179_runs, F179_firstKnown, F179_watcher, F179_watchedAs, F179_changes, F179_merged, F179_gaveBack, F179_recent, Fn179, At179, Af179, Ar179, nt179, wl179, gp179, gt179, gf179, gr179, gu179⟩
 obtain ⟨v199, T199, L199, hQ199, X199, st199⟩ := o_callP X178 hx hZ e178 hown (o_m hw 86 rfl) (o_m hw 87 rfl) (o_m hw 8 rfl) (o_m hw 88 rfl) (by decide) (a := pp) Ep179 (o_m hw 89 rfl) (o_m hw 9 rfl) (o_split l Z a0 hw n0 pp rc ru wa tm157 fr157 tl178 la178 L2 (ch + (1 : Int64)) (ch + (1 : Int64)) xs178 fs178 (o_put rs (cn + 1) start ending (1 : Int64)) ending h178 hP198 q194 q195 q196 q197) (g := (o_f22 m 101 pp start ending (1 : Int32) kp r178 [(.long ending), (.ref pp)])) rfl (by rw [hml]; rfl) rfl (argsL := [(.long ending)]) (rest := []) rfl (lenOf o_pd8 rfl) rfl (hb hby o_d7_101) (o_b rfl) (o_b rfl) (o_b rfl) (o_b rfl)
 obtain ⟨h199, e199⟩ : ∃ z, T199.heap = z := ⟨_, rfl⟩
 rw [e199] at hQ199
 obtain ⟨r199, tl199, la199, xs199, fs199, rfl, N199, hR199, pa199, pb199, pc199, pd199, pe199, pf199, pg199, ph199⟩ := hQ199
 have N_199 := Fr.app N_178 N199
 obtain ⟨Ep200, Er200, Ew200, F200_cpus, F200_times, F200_free, F200_head, F200_tail, F200_lastAt, F200_runs, F200_firstKnown, F200_watcher, F200_watchedAs, F200_changes, F200_merged, F200_gaveBack, F200_recent, Fn200, At200, Af200, Ar200, nt200, wl200, gp200, gt200, gf200, gr200, gu200⟩ := hR199
 refine o_q T199 (o_f22 m 104 pp start ending (1 : Int32) kp r178 [(.int r199)]) st199 ?_
 refine o_q T199 (o_f23 m 106 pp start ending (1 : Int32) kp r178 r199 []) (fun _ k9 => XS.istore X199.here hx rfl (hb hby o_d7_104) rfl (l' := (o_t23 pp start ending (1 : Int32) kp r178 r199)) rfl k9) ?_
 refine o_q T199 (o_f23 m 108 pp start ending (1 : Int32) kp r178 r199 [(.int r178)]) (fun _ k9 => XS.iload X199.here hx rfl (hb hby o_d7_106) rfl k9) ?_
 refine o_q T199 (o_f19 m 110 pp start ending (1 : Int32) kp r178 r199 r178 []) (fun _ k9 => XS.istore X199.here hx rfl (hb hby o_d7_108) rfl (l' := (o_t19 pp start ending (1 : Int32) kp r178 r199 r178)) rfl k9) ?_
 have hP215 : o_Pr Z n0 pp rc ru wa tm157 fr157 tl199 la199 L2 (ch + (1 : Int64)) (ch + (1 : Int64)) xs199 fs199 (o_put rs (cn + 1) start ending (1 : Int64)) h199 := ⟨Ep200, Er200, Ew200, F200_cpus, F200_times, F200_free, F200_head, F200_tail, F200_lastAt, F200_runs, F200_firstKnown, F200_watcher, F200_watchedAs, F200_changes, F200_merged, F200_gaveBack, F200_recent, Fn200, At200, Af200, Ar200, nt200, wl200, gp200, gt200, gf200, gr200, gu200⟩
 have n0216 : 1 ≤ tl.toNatClampNeg := by
  have r1 := rng32 tl
  have n0 := o_nat (tl) (by omega)
  omega
 have n1216 : 1 ≤ tl178.toNatClampNeg := by
  have r1 := rng32 tl178
  have n0 := o_nat (tl178) (by omega)
  omega
 have S0216 : o_S lo hi tl.toNatClampNeg xs157 fs157 := o_Sgrow n0216 Sg ra157 rb157
 have x0216 : xs157 0 = xs 0 := ra157 0 (by omega)
 have S1216 := o_Ssplit n0216 S0216 (fun q => by rw [x0216]; exact hz q) pe178 pg178
 have S2216 := o_Ssplit n1216 S1216 (fun q => by rw [pf178, x0216]; exact o_lt3 (hz q) hse) pe199 pg199
 obtain ⟨S3216, U3216⟩ := o_Sinit Dd S2216
 have q217 : 1 ≤ tl199.toInt := by
  have r1 := rng32 tl199
  omega
 have q218 : tl199.toInt ≤ L2.toInt := by
  have r1 := rng32 tl199
  have r2 := rng32 L2
  omega
 have q219 : L2.toInt ≤ 32 := by
  have r1 := rng32 L2
  omega
 have q220 : r199.toInt < tl199.toInt := by
  have r1 := rng32 r199
  have r2 := rng32 tl199
  omega
 have q221 : 0 ≤ r199.toInt := by
  have r1 := rng32 r199
  omega
 have q222 : 0 ≤ r178.toInt := by
  have r1 := rng32 r178
  omega
 have q223 : r178.toInt ≤ 33 := by
  have r1 := rng32 r178
  have r2 := rng32 tl178
  have r3 := rng32 tl199
  omega
 have q224 : 0 ≤ r178.toInt := by
  have r1 := rng32 r178
  omega
 have q225 : r199.toInt - r178.toInt + 40 ≤ (100 : Nat) := by
  have r1 := rng32 r199
  have r2 := rng32 r178
  have r3 := rng32 tl199
  omega
 have GL := o_addG_p1_loop Z a0 hw n0 pp rc ru wa tm157 fr157 tl199 la199 L2 (ch + (1 : Int64)) (ch + (1 : Int64)) xs199 (o_put rs (cn + 1) start ending (1 : Int64)) kp r178 r199 start ending lo hi lo1 hi1 q217 q218 q219 q220 q221 q222 Dd hx hby hml hZ hown hret hlk 100 r178 fs199 _ _ X199 e199 N_199 hP215 q223 q224 q225 S3216 (fun j _ h => U3216 j h)
 have q226 : tl199.toInt ≤ tl.toInt + 2 := by
  have r1 := rng32 tl178
  have r2 := rng32 tl199
  have r3 := rng32 tl
  omega
 exact o_mono (fun v h Ls ⟨tl', xs', fs', a1, a2, a3, a4, a5, a6, a7⟩ => ⟨tm157, fr157, tl', la199, xs', fs', a1, a2, a3, a4, Int.le_trans a5 q226, by rw [a6, pf199, pf178, x0216], a7⟩) GL
theorem o_d6_0 : decode o_y15 0 = .ok (.aload_n 0, 1) := by decide +kernel
theorem o_d6_1 : decode o_y15 1 = .ok (.lload_n 1, 1) := by decide +kernel
theorem o_d6_2 : decode o_y15 2 = .ok (.lload_n 3, 1) := by decide +kernel
theorem o_d6_3 : decode o_y15 3 = .ok (.iload 5, 2) := by decide +kernel
theorem o_d6_5 : decode o_y15 5 = .ok (.ineg, 1) := by decide +kernel
theorem o_d6_6 : decode o_y15 6 = .ok (.invokevirtual 177, 3) := by decide +kernel
theorem o_pd14 : parseMethodDescriptor "(JJI)V" = some ⟨[.long, .long, .int], none⟩ := by decide +kernel
theorem o_d6_9 : decode o_y15 9 = .ok (.return_, 1) := by decide +kernel
theorem o_pn6 : plainFor (⟨o_n1, "book", "(JJI)V"⟩ : MethodName) = true := plainFor_of_name (by first | (simp [plainName, overriddenIn]; done) | decide +kernel)
set_option maxRecDepth 65536 in
set_option maxHeartbeats 40000000 in
theorem o_bookN_m1 (l : Launch) (Z : State) (a0 : Array Value) (hw : ∀ d ∈ tables_1, d.before a0 Z = true) (n0 : Nat) (pp rc ru wa tm fr : Addr) (tl la L : Int32) (ch gb : Int64) (xs : Nat → Int64) (fs : Nat → Int32) (rs : Nat → Int64) (start ending : Int64) (cn : Nat) (lo hi lo1 hi1 : Int) (h0 : Heap) (hP : o_Pr Z n0 pp rc ru wa tm fr tl la L ch gb xs fs rs h0) (i1 : 1 ≤ tl.toInt) (i2 : tl.toInt ≤ L.toInt) (i3 : L.toInt ≤ 32) (i4 : tl.toInt + 2 ≤ L.toInt) (hse : start < ending) (hc : ch.toInt = (cn : Int)) (hc2 : cn ≤ 100) (Dd : o_D lo hi lo1 hi1 (-1)) (Sg : o_S lo hi tl.toNatClampNeg xs fs) (hz : hi ≤ 15 → ¬ start < xs 0) :
  o_C l (⟨o_n1, "book", "(JJI)V"⟩ : MethodName) o_y15 6 none (o_R 6 0 0 130) Z h0 #[(.ref pp), (.long start), (.long ending), (.int (1 : Int32))] (fun v h Ls => ∃ (tm' fr' : Addr) (tl' la' : Int32) (xs' : Nat → Int64) (fs' : Nat → Int32), v = none ∧ Fr n0 Ls ∧ o_Pr Z n0 pp rc ru wa tm' fr' tl' la' L (ch + (1 : Int64)) gb xs' fs' (o_put rs (cn + 1) start ending (0 : Int64)) h ∧ 1 ≤ tl'.toInt ∧ tl'.toInt ≤ tl.toInt + 2 ∧ xs' 0 = xs 0 ∧ o_S lo1 hi1 tl'.toNatClampNeg xs' fs') := by
 refine o_body o_pn6 ?_
 intro p e s m below meth c s₁ hx hby hml hZ hown hnm hret hlk X0 e0
 refine o_cast (f' := (o_f24 m 0 pp start ending (1 : Int32) [])) (by first | (simp [entryFrame, mkF, argsToLocals, Value.category, maxLocals]; done) | rfl) ?_
 have Ep0 := hP.1
 refine o_q s₁ (o_f24 m 1 pp start ending (1 : Int32) [(.ref pp)]) (fun _ k9 => XS.aloadN X0.here hx rfl (hb hby o_d6_0) rfl rfl k9) ?_
 refine o_q s₁ (o_f24 m 2 pp start ending (1 : Int32) [(.long start), (.ref pp)]) (fun _ k9 => XS.lloadN X0.here hx rfl (hb hby o_d6_1) rfl k9) ?_
 refine o_q s₁ (o_f24 m 3 pp start ending (1 : Int32) [(.long ending), (.long start), (.ref pp)]) (fun _ k9 => XS.lloadN X0.here hx rfl (hb hby o_d6_2) rfl k9) ?_
 refine o_q s₁ (o_f24 m 5 pp start ending (1 : Int32) [(.int (1 : Int32)), (.long ending), (.long start), (.ref pp)]) (fun _ k9 => XS.iload X0.here hx rfl (hb hby o_d6_3) rfl k9) ?_
 refine o_q s₁ (o_f24 m 6 pp start ending (1 : Int32) [(.int (-1 : Int32)), (.long ending), (.long start), (.ref pp)]) (fun _ k9 => XS.ineg X0.here hx rfl (hb hby o_d6_5) rfl k9) ?_
 obtain ⟨v1, T1, L1, hQ1, X1, st1⟩ := o_callP X0 hx hZ e0 hown (o_m hw 57 rfl) (o_m hw 58 rfl) (o_m hw 8 rfl) (o_m hw 59 rfl) (by decide) (a := pp) Ep0 (o_m hw 60 rfl) (o_m hw 9 rfl) (o_addN_m1 l Z a0 hw n0 pp rc ru wa tm fr tl la L ch gb xs fs rs start ending cn lo hi lo1 hi1 h0 hP i1 i2 i3 i4 hse hc hc2 Dd Sg hz) (g := (o_f24 m 6 pp start ending (1 : Int32) [(.int (-1 : Int32)), (.long ending), (.long start), (.ref pp)])) rfl (by rw [hml]; rfl) rfl (argsL := [(.long start), (.long ending), (.int (-1 : Int32))]) (rest := []) rfl (lenOf o_pd14 rfl) rfl (hb hby o_d6_6) (o_b rfl) (o_b rfl) (o_b rfl) (o_b rfl)
 obtain ⟨tmq, frq, tlq, laq, xsq, fsq, rfl, Nq, hRq, z1, z2, z3, z4⟩ := hQ1
 refine o_q T1 (o_f24 m 9 pp start ending (1 : Int32) []) st1 ?_
 exact o_retV X1 hx hlk hret (hb hby o_d6_9) ⟨tmq, frq, tlq, laq, xsq, fsq, rfl, Fr.app (Fr.nil _) Nq, hRq, z1, z2, z3, z4⟩ (o_b rfl) (o_b rfl)
set_option maxRecDepth 65536 in
set_option maxHeartbeats 40000000 in
theorem o_bookG_m1 (l : Launch) (Z : State) (a0 : Array Value) (hw : ∀ d ∈ tables_1, d.before a0 Z = true) (n0 : Nat) (pp rc ru wa tm fr : Addr) (tl la L : Int32) (ch gb : Int64) (xs : Nat → Int64) (fs : Nat → Int32) (rs : Nat → Int64) (L2 : Int32) (start ending : Int64) (cn : Nat) (lo hi lo1 hi1 : Int) (h0 : Heap) (hP : o_Pr Z n0 pp rc ru wa tm fr tl la L ch gb xs fs rs h0) (i1 : 1 ≤ tl.toInt) (i2 : tl.toInt ≤ L.toInt) (i3 : L2.toInt ≤ 32) (i4 : tl.toInt + 2 ≤ L2.toInt) (lz : L2 = ((2 : Int32) * L)) (lq : L2.toInt = 2 * L.toInt) (lh : (L / (2 : Int32)).toInt ≤ L.toInt) (lv : 4 ≤ L.toInt) (lw : L.toInt ≤ 16) (i5 : L.toInt < tl.toInt + 2) (hse : start < ending) (hc : ch.toInt = (cn : Int)) (hc2 : cn ≤ 100) (Dd : o_D lo hi lo1 hi1 (-1)) (Sg : o_S lo hi tl.toNatClampNeg xs fs) (hz : hi ≤ 15 → ¬ start < xs 0) :
  o_C l (⟨o_n1, "book", "(JJI)V"⟩ : MethodName) o_y15 6 none (o_R 6 2 64 130) Z h0 #[(.ref pp), (.long start), (.long ending), (.int (1 : Int32))] (fun v h Ls => ∃ (tm' fr' : Addr) (tl' la' : Int32) (xs' : Nat → Int64) (fs' : Nat → Int32), v = none ∧ Fr n0 Ls ∧ o_Pr Z n0 pp rc ru wa tm' fr' tl' la' L2 (ch + (1 : Int64)) gb xs' fs' (o_put rs (cn + 1) start ending (0 : Int64)) h ∧ 1 ≤ tl'.toInt ∧ tl'.toInt ≤ tl.toInt + 2 ∧ xs' 0 = xs 0 ∧ o_S lo1 hi1 tl'.toNatClampNeg xs' fs') := by
 refine o_body o_pn6 ?_
 intro p e s m below meth c s₁ hx hby hml hZ hown hnm hret hlk X0 e0
 refine o_cast (f' := (o_f24 m 0 pp start ending (1 : Int32) [])) (by first | (simp [entryFrame, mkF, argsToLocals, Value.category, maxLocals]; done) | rfl) ?_
 have Ep0 := hP.1
 refine o_q s₁ (o_f24 m 1 pp start ending (1 : Int32) [(.ref pp)]) (fun _ k9 => XS.aloadN X0.here hx rfl (hb hby o_d6_0) rfl rfl k9) ?_
 refine o_q s₁ (o_f24 m 2 pp start ending (1 : Int32) [(.long start), (.ref pp)]) (fun _ k9 => XS.lloadN X0.here hx rfl (hb hby o_d6_1) rfl k9) ?_
 refine o_q s₁ (o_f24 m 3 pp start ending (1 : Int32) [(.long ending), (.long start), (.ref pp)]) (fun _ k9 => XS.lloadN X0.here hx rfl (hb hby o_d6_2) rfl k9) ?_
 refine o_q s₁ (o_f24 m 5 pp start ending (1 : Int32) [(.int (1 : Int32)), (.long ending), (.long start), (.ref pp)]) (fun _ k9 => XS.iload X0.here hx rfl (hb hby o_d6_3) rfl k9) ?_
 refine o_q s₁ (o_f24 m 6 pp start ending (1 : Int32) [(.int (-1 : Int32)), (.long ending), (.long start), (.ref pp)]) (fun _ k9 => XS.ineg X0.here hx rfl (hb hby o_d6_5) rfl k9) ?_
 obtain ⟨v1, T1, L1, hQ1, X1, st1⟩ := o_callP X0 hx hZ e0 hown (o_m hw 57 rfl) (o_m hw 58 rfl) (o_m hw 8 rfl) (o_m hw 59 rfl) (by decide) (a := pp) Ep0 (o_m hw 60 rfl) (o_m hw 9 rfl) (o_addG_m1 l Z a0 hw n0 pp rc ru wa tm fr tl la L ch gb xs fs rs L2 start ending cn lo hi lo1 hi1 h0 hP i1 i2 i3 i4 lz lq lh lv lw i5 hse hc hc2 Dd Sg hz) (g := (o_f24 m 6 pp start ending (1 : Int32) [(.int (-1 : Int32)), (.long ending), (.long start), (.ref pp)])) rfl (by rw [hml]; rfl) rfl (argsL := [(.long start), (.long ending), (.int (-1 : Int32))]) (rest := []) rfl (lenOf o_pd14 rfl) rfl (hb hby o_d6_6) (o_b rfl) (o_b rfl) (o_b rfl) (o_b rfl)
 obtain ⟨tmq, frq, tlq, laq, xsq, fsq, rfl, Nq, hRq, z1, z2, z3, z4⟩ := hQ1
 refine o_q T1 (o_f24 m 9 pp start ending (1 : Int32) []) st1 ?_
 exact o_retV X1 hx hlk hret (hb hby o_d6_9) ⟨tmq, frq, tlq, laq, xsq, fsq, rfl, Fr.app (Fr.nil _) Nq, hRq, z1, z2, z3, z4⟩ (o_b rfl) (o_b rfl)
theorem o_d32_0 : decode o_y16 0 = .ok (.aload_n 0, 1) := by decide +kernel
theorem o_d32_1 : decode o_y16 1 = .ok (.lload_n 1, 1) := by decide +kernel
theorem o_d32_2 : decode o_y16 2 = .ok (.lload_n 3, 1) := by decide +kernel
theorem o_d32_3 : decode o_y16 3 = .ok (.iload 5, 2) := by decide +kernel
theorem o_d32_5 : decode o_y16 5 = .ok (.invokevirtual 177, 3) := by decide +kernel
theorem o_d32_8 : decode o_y16 8 = .ok (.return_, 1) := by decide +kernel
theorem o_pn32 : plainFor (⟨o_n1, "release", "(JJI)V"⟩ : MethodName) = true := plainFor_of_name (by first | (simp [plainName, overriddenIn]; done) | decide +kernel)
set_option maxRecDepth 65536 in
set_option maxHeartbeats 40000000 in
theorem o_releaseN_p1 (l : Launch) (Z : State) (a0 : Array Value) (hw : ∀ d ∈ tables_1, d.before a0 Z = true) (n0 : Nat) (pp rc ru wa tm fr : Addr) (tl la L : Int32) (ch gb : Int64) (xs : Nat → Int64) (fs : Nat → Int32) (rs : Nat → Int64) (start ending : Int64) (cn : Nat) (lo hi lo1 hi1 : Int) (h0 : Heap) (hP : o_Pr Z n0 pp rc ru wa tm fr tl la L ch gb xs fs rs h0) (i1 : 1 ≤ tl.toInt) (i2 : tl.toInt ≤ L.toInt) (i3 : L.toInt ≤ 32) (i4 : tl.toInt + 2 ≤ L.toInt) (hse : start < ending) (hc : ch.toInt = (cn : Int)) (hc2 : cn ≤ 100) (Dd : o_D lo hi lo1 hi1 (1)) (Sg : o_S lo hi tl.toNatClampNeg xs fs) (hz : hi ≤ 15 → ¬ start < xs 0) :
  o_C l (⟨o_n1, "release", "(JJI)V"⟩ : MethodName) o_y16 6 none (o_R 6 0 0 130) Z h0 #[(.ref pp), (.long start), (.long ending), (.int (1 : Int32))] (fun v h Ls => ∃ (tm' fr' : Addr) (tl' la' : Int32) (xs' : Nat → Int64) (fs' : Nat → Int32), v = none ∧ Fr n0 Ls ∧ o_Pr Z n0 pp rc ru wa tm' fr' tl' la' L (ch + (1 : Int64)) (ch + (1 : Int64)) xs' fs' (o_put rs (cn + 1) start ending (1 : Int64)) h ∧ 1 ≤ tl'.toInt ∧ tl'.toInt ≤ tl.toInt + 2 ∧ xs' 0 = xs 0 ∧ o_S lo1 hi1 tl'.toNatClampNeg xs' fs') := by
 refine o_body o_pn32 ?_
 intro p e s m below meth c s₁ hx hby hml hZ hown hnm hret hlk X0 e0
 refine o_cast (f' := (o_f24 m 0 pp start ending (1 : Int32) [])) (by first | (simp [entryFrame, mkF, argsToLocals, Value.category, maxLocals]; done) | rfl) ?_
 have Ep0 := hP.1
 refine o_q s₁ (o_f24 m 1 pp start ending (1 : Int32) [(.ref pp)]) (fun _ k9 => XS.aloadN X0.here hx rfl (hb hby o_d32_0) rfl rfl k9) ?_
 refine o_q s₁ (o_f24 m 2 pp start ending (1 : Int32) [(.long start), (.ref pp)]) (fun _ k9 => XS.lloadN X0.here hx rfl (hb hby o_d32_1) rfl k9) ?_
 refine o_q s₁ (o_f24 m 3 pp start ending (1 : Int32) [(.long ending), (.long start), (.ref pp)]) (fun _ k9 => XS.lloadN X0.here hx rfl (hb hby o_d32_2) rfl k9) ?_
 refine o_q s₁ (o_f24 m 5 pp start ending (1 : Int32) [(.int (1 : Int32)), (.long ending), (.long start), (.ref pp)]) (fun _ k9 => XS.iload X0.here hx rfl (hb hby o_d32_3) rfl k9) ?_
 obtain ⟨v1, T1, L1, hQ1, X1, st1⟩ := o_callP X0 hx hZ e0 hown (o_m hw 57 rfl) (o_m hw 58 rfl) (o_m hw 8 rfl) (o_m hw 59 rfl) (by decide) (a := pp) Ep0 (o_m hw 60 rfl) (o_m hw 9 rfl) (o_addN_p1 l Z a0 hw n0 pp rc ru wa tm fr tl la L ch gb xs fs rs start ending cn lo hi lo1 hi1 h0 hP i1 i2 i3 i4 hse hc hc2 Dd Sg hz) (g := (o_f24 m 5 pp start ending (1 : Int32) [(.int (1 : Int32)), (.long ending), (.long start), (.ref pp)])) rfl (by rw [hml]; rfl) rfl (argsL := [(.long start), (.long ending), (.int (1 : Int32))]) (rest := []) rfl (lenOf o_pd14 rfl) rfl (hb hby o_d32_5) (o_b rfl) (o_b rfl) (o_b rfl) (o_b rfl)
 obtain ⟨tmq, frq, tlq, laq, xsq, fsq, rfl, Nq, hRq, z1, z2, z3, z4⟩ := hQ1
 refine o_q T1 (o_f24 m 8 pp start ending (1 : Int32) []) st1 ?_
 exact o_retV X1 hx hlk hret (hb hby o_d32_8) ⟨tmq, frq, tlq, laq, xsq, fsq, rfl, Fr.app (Fr.nil _) Nq, hRq, z1, z2, z3, z4⟩ (o_b rfl) (o_b rfl)
set_option maxRecDepth 65536 in
set_option maxHeartbeats 40000000 in
theorem o_releaseG_p1 (l : Launch) (Z : State) (a0 : Array Value) (hw : ∀ d ∈ tables_1, d.before a0 Z = true) (n0 : Nat) (pp rc ru wa tm fr : Addr) (tl la L : Int32) (ch gb : Int64) (xs : Nat → Int64) (fs : Nat → Int32) (rs : Nat → Int64) (L2 : Int32) (start ending : Int64) (cn : Nat) (lo hi lo1 hi1 : Int) (h0 : Heap) (hP : o_Pr Z n0 pp rc ru wa tm fr tl la L ch gb xs fs rs h0) (i1 : 1 ≤ tl.toInt) (i2 : tl.toInt ≤ L.toInt) (i3 : L2.toInt ≤ 32) (i4 : tl.toInt + 2 ≤ L2.toInt) (lz : L2 = ((2 : Int32) * L)) (lq : L2.toInt = 2 * L.toInt) (lh : (L / (2 : Int32)).toInt ≤ L.toInt) (lv : 4 ≤ L.toInt) (lw : L.toInt ≤ 16) (i5 : L.toInt < tl.toInt + 2) (hse : start < ending) (hc : ch.toInt = (cn : Int)) (hc2 : cn ≤ 100) (Dd : o_D lo hi lo1 hi1 (1)) (Sg : o_S lo hi tl.toNatClampNeg xs fs) (hz : hi ≤ 15 → ¬ start < xs 0) :
  o_C l (⟨o_n1, "release", "(JJI)V"⟩ : MethodName) o_y16 6 none (o_R 6 2 64 130) Z h0 #[(.ref pp), (.long start), (.long ending), (.int (1 : Int32))] (fun v h Ls => ∃ (tm' fr' : Addr) (tl' la' : Int32) (xs' : Nat → Int64) (fs' : Nat → Int32), v = none ∧ Fr n0 Ls ∧ o_Pr Z n0 pp rc ru wa tm' fr' tl' la' L2 (ch + (1 : Int64)) (ch + (1 : Int64)) xs' fs' (o_put rs (cn + 1) start ending (1 : Int64)) h ∧ 1 ≤ tl'.toInt ∧ tl'.toInt ≤ tl.toInt + 2 ∧ xs' 0 = xs 0 ∧ o_S lo1 hi1 tl'.toNatClampNeg xs' fs') := by
 refine o_body o_pn32 ?_
 intro p e s m below meth c s₁ hx hby hml hZ hown hnm hret hlk X0 e0
 refine o_cast (f' := (o_f24 m 0 pp start ending (1 : Int32) [])) (by first | (simp [entryFrame, mkF, argsToLocals, Value.category, maxLocals]; done) | rfl) ?_
 have Ep0 := hP.1
 refine o_q s₁ (o_f24 m 1 pp start ending (1 : Int32) [(.ref pp)]) (fun _ k9 => XS.aloadN X0.here hx rfl (hb hby o_d32_0) rfl rfl k9) ?_
 refine o_q s₁ (o_f24 m 2 pp start ending (1 : Int32) [(.long start), (.ref pp)]) (fun _ k9 => XS.lloadN X0.here hx rfl (hb hby o_d32_1) rfl k9) ?_
 refine o_q s₁ (o_f24 m 3 pp start ending (1 : Int32) [(.long ending), (.long start), (.ref pp)]) (fun _ k9 => XS.lloadN X0.here hx rfl (hb hby o_d32_2) rfl k9) ?_
 refine o_q s₁ (o_f24 m 5 pp start ending (1 : Int32) [(.int (1 : Int32)), (.long ending), (.long start), (.ref pp)]) (fun _ k9 => XS.iload X0.here hx rfl (hb hby o_d32_3) rfl k9) ?_
 obtain ⟨v1, T1, L1, hQ1, X1, st1⟩ := o_callP X0 hx hZ e0 hown (o_m hw 57 rfl) (o_m hw 58 rfl) (o_m hw 8 rfl) (o_m hw 59 rfl) (by decide) (a := pp) Ep0 (o_m hw 60 rfl) (o_m hw 9 rfl) (o_addG_p1 l Z a0 hw n0 pp rc ru wa tm fr tl la L ch gb xs fs rs L2 start ending cn lo hi lo1 hi1 h0 hP i1 i2 i3 i4 lz lq lh lv lw i5 hse hc hc2 Dd Sg hz) (g := (o_f24 m 5 pp start ending (1 : Int32) [(.int (1 : Int32)), (.long ending), (.long start), (.ref pp)])) rfl (by rw [hml]; rfl) rfl (argsL := [(.long start), (.long ending), (.int (1 : Int32))]) (rest := []) rfl (lenOf o_pd14 rfl) rfl (hb hby o_d32_5) (o_b rfl) (o_b rfl) (o_b rfl) (o_b rfl)
 obtain ⟨tmq, frq, tlq, laq, xsq, fsq, rfl, Nq, hRq, z1, z2, z3, z4⟩ := hQ1
 refine o_q T1 (o_f24 m 8 pp start ending (1 : Int32) []) st1 ?_
 exact o_retV X1 hx hlk hret (hb hby o_d32_8) ⟨tmq, frq, tlq, laq, xsq, fsq, rfl, Fr.app (Fr.nil _) Nq, hRq, z1, z2, z3, z4⟩ (o_b rfl) (o_b rfl)
theorem o_d5_0 : decode o_y17 0 = .ok (.aload_n 0, 1) := by decide +kernel
theorem o_d5_1 : decode o_y17 1 = .ok (.invokespecial 5, 3) := by decide +kernel
theorem o_d5_4 : decode o_y17 4 = .ok (.aload_n 0, 1) := by decide +kernel
theorem o_d5_5 : decode o_y17 5 = .ok (.aload_n 1, 1) := by decide +kernel
theorem o_d5_6 : decode o_y17 6 = .ok (.putfield 11, 3) := by decide +kernel
theorem o_d5_9 : decode o_y17 9 = .ok (.return_, 1) := by decide +kernel
theorem o_pn5 : plainFor (⟨o_n3, "<init>", "(Lcom/example/gapwright/gapwright/profile/CpuProfile;)V"⟩ : MethodName) = true := plainFor_of_name (by first | (simp [plainName, overriddenIn]; done) | decide +kernel)
set_option maxRecDepth 65536 in
set_option maxHeartbeats 40000000 in
theorem o_frinit (l : Launch) (Z : State) (a0 : Array Value) (hw : ∀ d ∈ tables_1, d.before a0 Z = true) (a : Addr) (q : Addr) (h0 : Heap) (n0 : Nat) (ga : n0 ≤ a) (E0 : Exa Z h0 a o_n3) (F0_profile : Fld Z h0 a o_n3 "profile" "Lcom/example/gapwright/gapwright/profile/CpuProfile;" .null) (F0_nodes : Fld Z h0 a o_n3 "nodes" "[[J" .null) (F0_blocks : Fld Z h0 a o_n3 "blocks" "I" (.int (0 : Int32))) (F0_bounds : Fld Z h0 a o_n3 "bounds" "[I" .null) (F0_leaves : Fld Z h0 a o_n3 "leaves" "I" (.int (0 : Int32))) :
  o_C l (⟨o_n3, "<init>", "(Lcom/example/gapwright/gapwright/profile/CpuProfile;)V"⟩ : MethodName) o_y17 2 none (o_R 1 0 0 12) Z h0 #[(.ref a), (.ref q)] (fun v h L => v = none ∧ Fr n0 L ∧ Keep h0 h [a] ∧ Exa Z h a o_n3 ∧ Fld Z h a o_n3 "profile" "Lcom/example/gapwright/gapwright/profile/CpuProfile;" (.ref q) ∧ Fld Z h a o_n3 "nodes" "[[J" .null ∧ Fld Z h a o_n3 "blocks" "I" (.int (0 : Int32)) ∧ Fld Z h a o_n3 "bounds" "[I" .null ∧ Fld Z h a o_n3 "leaves" "I" (.int (0 : Int32))) := by
 refine o_body o_pn5 ?_
 intro p e s m below meth c s₁ hx hby hml hZ hown hnm hret hlk X0 e0
 refine o_cast (f' := (o_f25 m 0 a q [])) (by first | (simp [entryFrame, mkF, argsToLocals, Value.category, maxLocals]; done) | rfl) ?_
 refine o_q s₁ (o_f25 m 1 a q [(.ref a)]) (fun _ k9 => XS.aloadN X0.here hx rfl (hb hby o_d5_0) rfl rfl k9) ?_
 obtain ⟨T1, X1, e1, st1⟩ := initO X0 hx hZ hown (o_m hw 22 rfl) (o_m hw 14 rfl) (o_m hw 15 rfl) e0 (g := (o_f25 m 1 a q [(.ref a)])) rfl (by rw [hml]; rfl) rfl (hb hby o_d5_1) (by decide) (W := 0) (by show 2 * 0 + _ ≤ _; exact Nat.le_of_eq rfl) (by decide)
 refine o_q T1 (o_f25 m 4 a q []) st1 ?_
 refine o_q T1 (o_f25 m 5 a q [(.ref a)]) (fun _ k9 => XS.aloadN X1.here hx rfl (hb hby o_d5_4) rfl rfl k9) ?_
 refine o_q T1 (o_f25 m 6 a q [(.ref q), (.ref a)]) (fun _ k9 => XS.aloadN X1.here hx rfl (hb hby o_d5_5) rfl rfl k9) ?_
 refine o_pF X1 hx hZ e1 hby (ty := (.object o_n1)) hown (o_m hw 23 rfl) F0_profile E0 (Or.inr ⟨(o_m hw 24 rfl), rfl, hnm⟩) (o_m hw 17 rfl) (by decide) rfl rfl o_d5_6 fun T2 h2 X2 e2 W2 => ?_
 have Fw2 := F0_profile.same W2
 have N_2 := Fr.snoc X2 (Fr.nil _) ga
 have KP2 : Keep h0 h2 [a] := (Keep.refl h0 [a]).wr W2 (Or.inl (List.mem_of_getElem? (i := 0) rfl))
 have Y3 := E0.wr W2
 have Y5 := F0_nodes.other W2 (o_sn (Or.inl (o_m hw 106 rfl)) (Or.inr (o_m hw 24 rfl)))
 have Y6 := F0_blocks.other W2 (o_sn (Or.inl (o_m hw 186 rfl)) (Or.inr (o_m hw 24 rfl)))
 have Y7 := F0_bounds.other W2 (o_sn (Or.inl (o_m hw 188 rfl)) (Or.inr (o_m hw 24 rfl)))
 have Y8 := F0_leaves.other W2 (o_sn (Or.inl (o_m hw 190 rfl)) (Or.inr (o_m hw 24 rfl)))
 exact o_retV X2 hx hlk hret (hb hby o_d5_9) ⟨rfl, N_2, by rw [e2]; exact KP2, by rw [e2]; exact Y3, by rw [e2]; exact Fw2, by rw [e2]; exact Y5, by rw [e2]; exact Y6, by rw [e2]; exact Y7, by rw [e2]; exact Y8⟩ (by decide) (by decide)
theorem o_d3_0 : decode o_y18 0 = .ok (.aload_n 0, 1) := by decide +kernel
theorem o_d3_1 : decode o_y18 1 = .ok (.invokespecial 3, 3) := by decide +kernel
theorem o_d3_4 : decode o_y18 4 = .ok (.aload_n 0, 1) := by decide +kernel
theorem o_d3_5 : decode o_y18 5 = .ok (.new 9, 3) := by decide +kernel
theorem o_d3_8 : decode o_y18 8 = .ok (.dup, 1) := by decide +kernel
theorem o_d3_9 : decode o_y18 9 = .ok (.aload_n 0, 1) := by decide +kernel
theorem o_d3_10 : decode o_y18 10 = .ok (.invokespecial 11, 3) := by decide +kernel
theorem o_pd16 : parseMethodDescriptor "(Lcom/example/gapwright/gapwright/profile/CpuProfile;)V" = some ⟨[(.object o_n1)], none⟩ := by decide +kernel
theorem o_d3_13 : decode o_y18 13 = .ok (.putfield 14, 3) := by decide +kernel
theorem o_d3_16 : decode o_y18 16 = .ok (.aload_n 0, 1) := by decide +kernel
theorem o_d3_17 : decode o_y18 17 = .ok (.iconst 1, 1) := by decide +kernel
theorem o_d3_18 : decode o_y18 18 = .ok (.newarray .long, 2) := by decide +kernel
theorem o_d3_20 : decode o_y18 20 = .ok (.putfield 20, 3) := by decide +kernel
theorem o_d3_23 : decode o_y18 23 = .ok (.aload_n 0, 1) := by decide +kernel
theorem o_d3_24 : decode o_y18 24 = .ok (.getstatic 24, 3) := by decide +kernel
theorem o_d3_27 : decode o_y18 27 = .ok (.putfield 27, 3) := by decide +kernel
theorem o_d3_30 : decode o_y18 30 = .ok (.aload_n 0, 1) := by decide +kernel
theorem o_d3_31 : decode o_y18 31 = .ok (.bipush 24, 2) := by decide +kernel
theorem o_d3_33 : decode o_y18 33 = .ok (.newarray .long, 2) := by decide +kernel
theorem o_d3_35 : decode o_y18 35 = .ok (.putfield 30, 3) := by decide +kernel
theorem o_d3_38 : decode o_y18 38 = .ok (.aload_n 0, 1) := by decide +kernel
theorem o_d3_39 : decode o_y18 39 = .ok (.getstatic 33, 3) := by decide +kernel
theorem o_d3_42 : decode o_y18 42 = .ok (.putfield 37, 3) := by decide +kernel
theorem o_d3_45 : decode o_y18 45 = .ok (.aload_n 0, 1) := by decide +kernel
theorem o_d3_46 : decode o_y18 46 = .ok (.iload_n 1, 1) := by decide +kernel
theorem o_d3_47 : decode o_y18 47 = .ok (.putfield 40, 3) := by decide +kernel
theorem o_d3_50 : decode o_y18 50 = .ok (.aload_n 0, 1) := by decide +kernel
theorem o_d3_51 : decode o_y18 51 = .ok (.iconst 4, 1) := by decide +kernel
theorem o_d3_52 : decode o_y18 52 = .ok (.newarray .long, 2) := by decide +kernel
theorem o_d3_54 : decode o_y18 54 = .ok (.dup, 1) := by decide +kernel
theorem o_d3_55 : decode o_y18 55 = .ok (.iconst 0, 1) := by decide +kernel
theorem o_d3_56 : decode o_y18 56 = .ok (.ldc2_w 44, 3) := by decide +kernel
theorem o_d3_59 : decode o_y18 59 = .ok (.lastore, 1) := by decide +kernel
theorem o_d3_60 : decode o_y18 60 = .ok (.dup, 1) := by decide +kernel
theorem o_d3_61 : decode o_y18 61 = .ok (.iconst 1, 1) := by decide +kernel
theorem o_d3_62 : decode o_y18 62 = .ok (.lconst 0, 1) := by decide +kernel
theorem o_d3_63 : decode o_y18 63 = .ok (.lastore, 1) := by decide +kernel
theorem o_d3_64 : decode o_y18 64 = .ok (.dup, 1) := by decide +kernel
theorem o_d3_65 : decode o_y18 65 = .ok (.iconst 2, 1) := by decide +kernel
theorem o_d3_66 : decode o_y18 66 = .ok (.lconst 0, 1) := by decide +kernel
theorem o_d3_67 : decode o_y18 67 = .ok (.lastore, 1) := by decide +kernel
theorem o_d3_68 : decode o_y18 68 = .ok (.dup, 1) := by decide +kernel
theorem o_d3_69 : decode o_y18 69 = .ok (.iconst 3, 1) := by decide +kernel
theorem o_d3_70 : decode o_y18 70 = .ok (.lconst 0, 1) := by decide +kernel
theorem o_d3_71 : decode o_y18 71 = .ok (.lastore, 1) := by decide +kernel
theorem o_d3_72 : decode o_y18 72 = .ok (.putfield 46, 3) := by decide +kernel
theorem o_d3_75 : decode o_y18 75 = .ok (.aload_n 0, 1) := by decide +kernel
theorem o_d3_76 : decode o_y18 76 = .ok (.iconst 4, 1) := by decide +kernel
theorem o_d3_77 : decode o_y18 77 = .ok (.newarray .int, 2) := by decide +kernel
theorem o_d3_79 : decode o_y18 79 = .ok (.dup, 1) := by decide +kernel
theorem o_d3_80 : decode o_y18 80 = .ok (.iconst 0, 1) := by decide +kernel
theorem o_d3_81 : decode o_y18 81 = .ok (.iload_n 1, 1) := by decide +kernel
theorem o_d3_82 : decode o_y18 82 = .ok (.iastore, 1) := by decide +kernel
theorem o_d3_83 : decode o_y18 83 = .ok (.dup, 1) := by decide +kernel
theorem o_d3_84 : decode o_y18 84 = .ok (.iconst 1, 1) := by decide +kernel
theorem o_d3_85 : decode o_y18 85 = .ok (.iconst 0, 1) := by decide +kernel
theorem o_d3_86 : decode o_y18 86 = .ok (.iastore, 1) := by decide +kernel
theorem o_d3_87 : decode o_y18 87 = .ok (.dup, 1) := by decide +kernel
theorem o_d3_88 : decode o_y18 88 = .ok (.iconst 2, 1) := by decide +kernel
theorem o_d3_89 : decode o_y18 89 = .ok (.iconst 0, 1) := by decide +kernel
theorem o_d3_90 : decode o_y18 90 = .ok (.iastore, 1) := by decide +kernel
theorem o_d3_91 : decode o_y18 91 = .ok (.dup, 1) := by decide +kernel
theorem o_d3_92 : decode o_y18 92 = .ok (.iconst 3, 1) := by decide +kernel
theorem o_d3_93 : decode o_y18 93 = .ok (.iconst 0, 1) := by decide +kernel
theorem o_d3_94 : decode o_y18 94 = .ok (.iastore, 1) := by decide +kernel
theorem o_d3_95 : decode o_y18 95 = .ok (.putfield 49, 3) := by decide +kernel
theorem o_d3_98 : decode o_y18 98 = .ok (.aload_n 0, 1) := by decide +kernel
theorem o_d3_99 : decode o_y18 99 = .ok (.iconst 1, 1) := by decide +kernel
theorem o_d3_100 : decode o_y18 100 = .ok (.putfield 53, 3) := by decide +kernel
theorem o_d3_103 : decode o_y18 103 = .ok (.return_, 1) := by decide +kernel
theorem o_pn3 : plainFor (⟨o_n1, "<init>", "(I)V"⟩ : MethodName) = true := plainFor_of_name (by first | (simp [plainName, overriddenIn]; done) | decide +kernel)
set_option maxRecDepth 65536 in
set_option maxHeartbeats 40000000 in
theorem o_pinit (l : Launch) (Z : State) (a0 : Array Value) (hw : ∀ d ∈ tables_1, d.before a0 Z = true) (n0 : Nat) (pp wa ni : Addr) (h0 : Heap) (gp0 : n0 ≤ pp) (wl : wa < n0) (E0 : Exa Z h0 pp o_n1) (Ew0 : Exa Z h0 wa o_n2) (Sn : Sta Z h0 o_n1 "NO_INSTANTS" "[J" (.ref ni)) (Sw : Sta Z h0 o_n1 "UNWATCHED" "Lcom/example/gapwright/gapwright/profile/CpuProfile$Watcher;" (.ref wa)) (F0_runs : Fld Z h0 pp o_n1 "runs" "Lcom/example/gapwright/gapwright/profile/FreeRuns;" .null) (F0_firstWith : Fld Z h0 pp o_n1 "firstWith" "[J" .null) (F0_openedAt : Fld Z h0 pp o_n1 "openedAt" "[J" .null) (F0_recent : Fld Z h0 pp o_n1 "recent" "[J" .null) (F0_watcher : Fld Z h0 pp o_n1 "watcher" "Lcom/example/gapwright/gapwright/profile/CpuProfile$Watcher;" .null) (F0_cpus : Fld Z h0 pp o_n1 "cpus" "I" (.int (0 : Int32))) (F0_times : Fld Z h0 pp o_n1 "times" "[J" .null) (F0_free : Fld Z h0 pp o_n1 "free" "[I" .null) (F0_tail : Fld Z h0 pp o_n1 "tail" "I" (.int (0 : Int32))) (F0_firstKnown : Fld Z h0 pp o_n1 "firstKnown" "Z" (.int (0 : Int32))) (F0_watchedAs : Fld Z h0 pp o_n1 "watchedAs" "I" (.int (0 : Int32))) (F0_changes : Fld Z h0 pp o_n1 "changes" "J" (.long (0 : Int64))) (F0_head : Fld Z h0 pp o_n1 "head" "I" (.int (0 : Int32))) (F0_lastAt : Fld Z h0 pp o_n1 "lastAt" "I" (.int (0 : Int32))) (F0_merged : Fld Z h0 pp o_n1 "merged" "J" (.long (0 : Int64))) (F0_gaveBack : Fld Z h0 pp o_n1 "gaveBack" "J" (.long (0 : Int64))) :
  o_C l (⟨o_n1, "<init>", "(I)V"⟩ : MethodName) o_y18 2 none (o_R 2 5 50 27) Z h0 #[(.ref pp), (.int (16 : Int32))] (fun v h Ls => ∃ (rc ru tm' fr' : Addr) (xs' : Nat → Int64) (fs' : Nat → Int32), v = none ∧ Fr n0 Ls ∧ o_Pr Z n0 pp rc ru wa tm' fr' (1 : Int32) (0 : Int32) (4 : Int32) (0 : Int64) (0 : Int64) xs' fs' (fun _ => 0) h ∧ xs' 0 = (-9223372036854775808 : Int64) ∧ (fs' 0).toInt = 16) := by
 refine o_body o_pn3 ?_
 intro p e s m below meth c s₁ hx hby hml hZ hown hnm hret hlk X0 e0
 refine o_cast (f' := (o_f10 m 0 pp (16 : Int32) [])) (by first | (simp [entryFrame, mkF, argsToLocals, Value.category, maxLocals]; done) | rfl) ?_
 refine o_q s₁ (o_f10 m 1 pp (16 : Int32) [(.ref pp)]) (fun _ k9 => XS.aloadN X0.here hx rfl (hb hby o_d3_0) rfl rfl k9) ?_
 obtain ⟨T2, X2, e2, st2⟩ := initO X0 hx hZ hown (o_m hw 13 rfl) (o_m hw 14 rfl) (o_m hw 15 rfl) e0 (g := (o_f10 m 1 pp (16 : Int32) [(.ref pp)])) rfl (by rw [hml]; rfl) rfl (hb hby o_d3_1) (by decide) (W := 0) (by show 2 * 0 + _ ≤ _; exact Nat.le_of_eq rfl) (by decide)
 refine o_q T2 (o_f10 m 4 pp (16 : Int32) []) st2 ?_
 refine o_q T2 (o_f10 m 5 pp (16 : Int32) [(.ref pp)]) (fun _ k9 => XS.aloadN X2.here hx rfl (hb hby o_d3_4) rfl rfl k9) ?_
 obtain ⟨T3, h3, X3, e3, E3, A3, D3, -, st3⟩ := newO X2 hx hZ hown (o_m hw 16 rfl) (o_m hw 17 rfl) (o_m hw 18 rfl) e2 (g := (o_f10 m 5 pp (16 : Int32) [(.ref pp)])) rfl (hb hby o_d3_5) (by decide) (by decide)
 obtain ⟨b3, g3⟩ : ∃ z, z = h0.size := ⟨_, rfl⟩
 rw [← g3] at A3 D3 st3
 have ne4 : o_ne pp b3 := Nat.ne_of_lt (Nat.lt_of_lt_of_le E0.lt (Nat.le_of_eq g3.symm))
 have g_b3 : n0 ≤ b3 := Nat.le_trans (Nat.le_of_lt (Nat.lt_of_le_of_lt gp0 E0.lt)) (Nat.le_of_eq g3.symm)
 have Y6 := Sn.ext E3
 have Y7 := Sw.ext E3
 have Y8 := E0.ext E3
 have Y9 := Ew0.ext E3
 have Y10 := F0_runs.ext E3
 have Y11 := F0_firstWith.ext E3
 have Y12 := F0_openedAt.ext E3
 have Y13 := F0_recent.ext E3
 have Y14 := F0_watcher.ext E3
 have Y15 := F0_cpus.ext E3
 have Y16 := F0_times.ext E3
 have Y17 := F0_free.ext E3
 have Y18 := F0_tail.ext E3
 have Y19 := F0_firstKnown.ext E3
 have Y20 := F0_watchedAs.ext E3
 have Y21 := F0_changes.ext E3
 have Y22 := F0_head.ext E3
 have Y23 := F0_lastAt.ext E3
 have Y24 := F0_merged.ext E3
 have Y25 := F0_gaveBack.ext E3
 have F3_profile : Fld Z h3 b3 o_n3 "profile" "Lcom/example/gapwright/gapwright/profile/CpuProfile;" .null := D3 (Or.inr (o_m hw 24 rfl)) (ty := (.object o_n1)) (by decide)
 have F3_nodes : Fld Z h3 b3 o_n3 "nodes" "[[J" .null := D3 (Or.inl (o_m hw 106 rfl)) (ty := (.array (.array .long))) (by decide)
 have F3_blocks : Fld Z h3 b3 o_n3 "blocks" "I" (.int (0 : Int32)) := D3 (Or.inl (o_m hw 186 rfl)) (ty := .int) (by decide)
 have F3_bounds : Fld Z h3 b3 o_n3 "bounds" "[I" .null := D3 (Or.inl (o_m hw 188 rfl)) (ty := (.array .int)) (by decide)
 have F3_leaves : Fld Z h3 b3 o_n3 "leaves" "I" (.int (0 : Int32)) := D3 (Or.inl (o_m hw 190 rfl)) (ty := .int) (by decide)
 refine o_q T3 (o_f10 m 8 pp (16 : Int32) [(.ref b3), (.ref pp)]) st3 ?_
 refine o_q T3 (o_f10 m 9 pp (16 : Int32) [(.ref b3), (.ref b3), (.ref pp)]) (fun _ k9 => XS.dup X3.here hx rfl (hb hby o_d3_8) rfl rfl k9) ?_
 refine o_q T3 (o_f10 m 10 pp (16 : Int32) [(.ref pp), (.ref b3), (.ref b3), (.ref pp)]) (fun _ k9 => XS.aloadN X3.here hx rfl (hb hby o_d3_9) rfl rfl k9) ?_
 obtain ⟨v26, T26, L26, hQ26, X26, st26⟩ := o_callN X3 hx hZ e3 hown rfl (o_m hw 19 rfl) (o_m hw 20 rfl) (by decide) (a := b3) (o_m hw 21 rfl) (o_m hw 18 rfl) (o_frinit l Z a0 hw b3 pp  h3 n0 g_b3 A3 F3_profile F3_nodes F3_blocks F3_bounds F3_leaves ) (g := (o_f10 m 10 pp (16 : Int32) [(.ref pp), (.ref b3), (.ref b3), (.ref pp)])) rfl (by rw [hml]; rfl) rfl (argsL := [(.ref pp)]) (rest := [(.ref b3), (.ref pp)]) rfl (lenOf o_pd16 rfl) rfl (hb hby o_d3_10) (o_b rfl) (o_b rfl) (o_b rfl) (o_b rfl)
 obtain ⟨h26, e26⟩ : ∃ z, T26.heap = z := ⟨_, rfl⟩
 rw [e26] at hQ26
 obtain ⟨rfl, N26, K26, Ee26, Fq26_0, Fq26_1, Fq26_2, Fq26_3, Fq26_4⟩ := hQ26
 have N_26 := Fr.app (Fr.nil _) N26
 have Y27 := o_staK Y6 K26 A3
 have Y28 := o_staK Y7 K26 A3
 have Y29 := Y8.keep K26
 have Y30 := Y9.keep K26
 have Y31 := Y10.keep K26 (ninS ne4 nin0)
 have Y32 := Y11.keep K26 (ninS ne4 nin0)
 have Y33 := Y12.keep K26 (ninS ne4 nin0)
 have Y34 := Y13.keep K26 (ninS ne4 nin0)
 have Y35 := Y14.keep K26 (ninS ne4 nin0)
 have Y36 := Y15.keep K26 (ninS ne4 nin0)
 have Y37 := Y16.keep K26 (ninS ne4 nin0)
 have Y38 := Y17.keep K26 (ninS ne4 nin0)
 have Y39 := Y18.keep K26 (ninS ne4 nin0)
 have Y40 := Y19.keep K26 (ninS ne4 nin0)
 have Y41 := Y20.keep K26 (ninS ne4 nin0)
 have Y42 := Y21.keep K26 (ninS ne4 nin0)
 have Y43 := Y22.keep K26 (ninS ne4 nin0)
 have Y44 := Y23.keep K26 (ninS ne4 nin0)
 have Y45 := Y24.keep K26 (ninS ne4 nin0)
 have Y46 := Y25.keep K26 (ninS ne4 nin0)
 refine o_q T26 (o_f10 m 13 pp (16 : Int32) [(.ref b3), (.ref pp)]) st26 ?_
 refine o_pF X26 hx hZ e26 hby (ty := (.object o_n3)) hown (o_m hw 25 rfl) Y31 Y29 (Or.inr ⟨(o_m hw 26 rfl), rfl, hnm⟩) (o_m hw 8 rfl) (by decide) rfl rfl o_d3_13 fun T53 h53 X53 e53 W53 => ?_
 have Fw53 := Y31.same W53
 have N_53 := Fr.snoc X53 N_26 gp0
 have Y54 := Y27.wr W53
 have Y55 := Y28.wr W53
 have Y56 := Y29.wr W53
 have Y57 := Y30.wr W53
 have Y59 := Y32.other W53 (o_sn (Or.inl (o_m hw 29 rfl)) (Or.inr (o_m hw 26 rfl)))
 have Y60 := Y33.other W53 (o_sn (Or.inl (o_m hw 33 rfl)) (Or.inr (o_m hw 26 rfl)))
 have Y61 := Y34.other W53 (o_sn (Or.inr (o_m hw 35 rfl)) (Or.inr (o_m hw 26 rfl)))
 have Y62 := Y35.other W53 (o_sn (Or.inl (o_m hw 39 rfl)) (Or.inr (o_m hw 26 rfl)))
 have Y63 := Y36.other W53 (o_sn (Or.inr (o_m hw 41 rfl)) (Or.inr (o_m hw 26 rfl)))
 have Y64 := Y37.other W53 (o_sn (Or.inl (o_m hw 44 rfl)) (Or.inr (o_m hw 26 rfl)))
 have Y65 := Y38.other W53 (o_sn (Or.inl (o_m hw 47 rfl)) (Or.inr (o_m hw 26 rfl)))
 have Y66 := Y39.other W53 (o_sn (Or.inl (o_m hw 49 rfl)) (Or.inr (o_m hw 26 rfl)))
 have Y67 := Y40.other W53 (o_sn (Or.inl (o_m hw 66 rfl)) (Or.inr (o_m hw 26 rfl)))
 have Y68 := Y41.other W53 (o_sn (Or.inl (o_m hw 68 rfl)) (Or.inr (o_m hw 26 rfl)))
 have Y69 := Y42.other W53 (o_sn (Or.inl (o_m hw 80 rfl)) (Or.inr (o_m hw 26 rfl)))
 have Y70 := Y43.other W53 (o_sn (Or.inl (o_m hw 95 rfl)) (Or.inr (o_m hw 26 rfl)))
 have Y71 := Y44.other W53 (o_sn (Or.inl (o_m hw 149 rfl)) (Or.inr (o_m hw 26 rfl)))
 have Y72 := Y45.other W53 (o_sn (Or.inl (o_m hw 177 rfl)) (Or.inr (o_m hw 26 rfl)))
 have Y73 := Y46.other W53 (o_sn (Or.inl (o_m hw 179 rfl)) (Or.inr (o_m hw 26 rfl)))
 have Y74 := Ee26.wr W53
 have Y76 := Fq26_1.other W53 (Or.inl (Ne.symm ne4))
 refine o_q T53 (o_f10 m 17 pp (16 : Int32) [(.ref pp)]) (fun _ k9 => XS.aloadN X53.here hx rfl (hb hby o_d3_16) rfl rfl k9) ?_
 refine o_iC (1 : Int32) X53 hx hby o_d3_17 rfl ?_
 obtain ⟨T80, h80, k80, X80, e80, E80, A80, st80⟩ := newP X53 hx hZ (o_m hw 27 rfl) e53 (g := (o_f10 m 18 pp (16 : Int32) [(.int (1 : Int32)), (.ref pp)])) rfl (hb hby o_d3_18) rfl (by decide) (cap := 1) (by decide) (by decide) (by decide) (by decide)
 obtain ⟨b80, g80⟩ : ∃ z, z = h53.size := ⟨_, rfl⟩
 rw [← g80] at A80 st80
 have g_b80 : n0 ≤ b80 := Nat.le_trans (Nat.le_of_lt (Nat.lt_of_le_of_lt gp0 Y56.lt)) (Nat.le_of_eq g80.symm)
 have V80 : o_LA Z h80 b80 (1 : Int32) (fun _ => 0) := o_new0 A80 (by decide) rfl
 obtain ⟨f80, d_f80⟩ : ∃ z : Nat → Int64, z = (fun _ => 0) := ⟨_, rfl⟩
 rw [← d_f80] at V80
 have Y84 := Y54.ext E80
 have Y85 := Y55.ext E80
 have Y86 := Y56.ext E80
 have Y87 := Y57.ext E80
 have Y88 := Fw53.ext E80
 have Y89 := Y59.ext E80
 have Y90 := Y60.ext E80
 have Y91 := Y61.ext E80
 have Y92 := Y62.ext E80
 have Y93 := Y63.ext E80
 have Y94 := Y64.ext E80
 have Y95 := Y65.ext E80
 have Y96 := Y66.ext E80
 have Y97 := Y67.ext E80
 have Y98 := Y68.ext E80
 have Y99 := Y69.ext E80
 have Y100 := Y70.ext E80
 have Y101 := Y71.ext E80
 have Y102 := Y72.ext E80
 have Y103 := Y73.ext E80
 have Y104 := Y74.ext E80
 have Y106 := Y76.ext E80
 refine o_q T80 (o_f10 m 20 pp (16 : Int32) [(.ref b80), (.ref pp)]) st80 ?_
 refine o_pF X80 hx hZ e80 hby (ty := (.array .long)) hown (o_m hw 28 rfl) Y89 Y86 (Or.inl (o_m hw 29 rfl)) (o_m hw 8 rfl) (by decide) rfl rfl o_d3_20 fun T110 h110 X110 e110 W110 => ?_
 have Fw110 := Y89.same W110
 have N_110 := Fr.snoc X110 N_53 gp0
 have Y111 := Y84.wr W110
 have Y112 := Y85.wr W110
 have Y113 := Y86.wr W110
 have Y114 := Y87.wr W110
 have Y115 := Y88.other W110 (o_sn (Or.inr (o_m hw 26 rfl)) (Or.inl (o_m hw 29 rfl)))
 have Y117 := Y90.other W110 (o_sn (Or.inl (o_m hw 33 rfl)) (Or.inl (o_m hw 29 rfl)))
 have Y118 := Y91.other W110 (o_sn (Or.inr (o_m hw 35 rfl)) (Or.inl (o_m hw 29 rfl)))
 have Y119 := Y92.other W110 (o_sn (Or.inl (o_m hw 39 rfl)) (Or.inl (o_m hw 29 rfl)))
 have Y120 := Y93.other W110 (o_sn (Or.inr (o_m hw 41 rfl)) (Or.inl (o_m hw 29 rfl)))
 have Y121 := Y94.other W110 (o_sn (Or.inl (o_m hw 44 rfl)) (Or.inl (o_m hw 29 rfl)))
 have Y122 := Y95.other W110 (o_sn (Or.inl (o_m hw 47 rfl)) (Or.inl (o_m hw 29 rfl)))
 have Y123 := Y96.other W110 (o_sn (Or.inl (o_m hw 49 rfl)) (Or.inl (o_m hw 29 rfl)))
 have Y124 := Y97.other W110 (o_sn (Or.inl (o_m hw 66 rfl)) (Or.inl (o_m hw 29 rfl)))
 have Y125 := Y98.other W110 (o_sn (Or.inl (o_m hw 68 rfl)) (Or.inl (o_m hw 29 rfl)))
 have Y126 := Y99.other W110 (o_sn (Or.inl (o_m hw 80 rfl)) (Or.inl (o_m hw 29 rfl)))
 have Y127 := Y100.other W110 (o_sn (Or.inl (o_m hw 95 rfl)) (Or.inl (o_m hw 29 rfl)))
 have Y128 := Y101.other W110 (o_sn (Or.inl (o_m hw 149 rfl)) (Or.inl (o_m hw 29 rfl)))
 have Y129 := Y102.other W110 (o_sn (Or.inl (o_m hw 177 rfl)) (Or.inl (o_m hw 29 rfl)))
 have Y130 := Y103.other W110 (o_sn (Or.inl (o_m hw 179 rfl)) (Or.inl (o_m hw 29 rfl)))
 have Y131 := Y104.wr W110
 have Y133 := Y106.other W110 (Or.inl (Ne.symm ne4))
 refine o_q T110 (o_f10 m 24 pp (16 : Int32) [(.ref pp)]) (fun _ k9 => XS.aloadN X110.here hx rfl (hb hby o_d3_23) rfl rfl k9) ?_
 obtain ⟨T138, X138, e138, st138⟩ := getS2 X110 hx hZ hown (host := "") (Or.inl (o_m hw 30 rfl)) Via.refl e110 Y111 (g := (o_f10 m 24 pp (16 : Int32) [(.ref pp)])) rfl (hb hby o_d3_24)
 refine o_q T138 (o_f10 m 27 pp (16 : Int32) [(.ref ni), (.ref pp)]) st138 ?_
 refine o_pF X138 hx hZ e138 hby (ty := (.array .long)) hown (o_m hw 32 rfl) Y117 Y113 (Or.inl (o_m hw 33 rfl)) (o_m hw 8 rfl) (by decide) rfl rfl o_d3_27 fun T139 h139 X139 e139 W139 => ?_
 have Fw139 := Y117.same W139
 have N_139 := Fr.snoc X139 N_110 gp0
 have Y141 := Y112.wr W139
 have Y142 := Y113.wr W139
 have Y143 := Y114.wr W139
 have Y144 := Y115.other W139 (o_sn (Or.inr (o_m hw 26 rfl)) (Or.inl (o_m hw 33 rfl)))
 have Y147 := Y118.other W139 (o_sn (Or.inr (o_m hw 35 rfl)) (Or.inl (o_m hw 33 rfl)))
 have Y148 := Y119.other W139 (o_sn (Or.inl (o_m hw 39 rfl)) (Or.inl (o_m hw 33 rfl)))
 have Y149 := Y120.other W139 (o_sn (Or.inr (o_m hw 41 rfl)) (Or.inl (o_m hw 33 rfl)))
 have Y150 := Y121.other W139 (o_sn (Or.inl (o_m hw 44 rfl)) (Or.inl (o_m hw 33 rfl)))
 have Y151 := Y122.other W139 (o_sn (Or.inl (o_m hw 47 rfl)) (Or.inl (o_m hw 33 rfl)))
 have Y152 := Y123.other W139 (o_sn (Or.inl (o_m hw 49 rfl)) (Or.inl (o_m hw 33 rfl)))
 have Y153 := Y124.other W139 (o_sn (Or.inl (o_m hw 66 rfl)) (Or.inl (o_m hw 33 rfl)))
 have Y154 := Y125.other W139 (o_sn (Or.inl (o_m hw 68 rfl)) (Or.inl (o_m hw 33 rfl)))
 have Y155 := Y126.other W139 (o_sn (Or.inl (o_m hw 80 rfl)) (Or.inl (o_m hw 33 rfl)))
 have Y156 := Y127.other W139 (o_sn (Or.inl (o_m hw 95 rfl)) (Or.inl (o_m hw 33 rfl)))
 have Y157 := Y128.other W139 (o_sn (Or.inl (o_m hw 149 rfl)) (Or.inl (o_m hw 33 rfl)))
 have Y158 := Y129.other W139 (o_sn (Or.inl (o_m hw 177 rfl)) (Or.inl (o_m hw 33 rfl)))
 have Y159 := Y130.other W139 (o_sn (Or.inl (o_m hw 179 rfl)) (Or.inl (o_m hw 33 rfl)))
 have Y160 := Y131.wr W139
 have Y162 := Y133.other W139 (Or.inl (Ne.symm ne4))
 refine o_q T139 (o_f10 m 31 pp (16 : Int32) [(.ref pp)]) (fun _ k9 => XS.aloadN X139.here hx rfl (hb hby o_d3_30) rfl rfl k9) ?_
 refine o_q T139 (o_f10 m 33 pp (16 : Int32) [(.int (24 : Int32)), (.ref pp)]) (fun _ k9 => XS.bipush X139.here hx rfl (hb hby o_d3_31) k9) ?_
 obtain ⟨T167, h167, k167, X167, e167, E167, A167, st167⟩ := newP X139 hx hZ (o_m hw 27 rfl) e139 (g := (o_f10 m 33 pp (16 : Int32) [(.int (24 : Int32)), (.ref pp)])) rfl (hb hby o_d3_33) rfl (by decide) (cap := 24) (by decide) (by decide) (by decide) (by decide)
 obtain ⟨b167, g167⟩ : ∃ z, z = h139.size := ⟨_, rfl⟩
 rw [← g167] at A167 st167
 have ne168 : o_ne pp b167 := Nat.ne_of_lt (Nat.lt_of_lt_of_le Y142.lt (Nat.le_of_eq g167.symm))
 have g_b167 : n0 ≤ b167 := Nat.le_trans (Nat.le_of_lt (Nat.lt_of_le_of_lt gp0 Y142.lt)) (Nat.le_of_eq g167.symm)
 have V167 : o_LA Z h167 b167 (24 : Int32) (fun _ => 0) := o_new0 A167 (by decide) rfl
 obtain ⟨f167, d_f167⟩ : ∃ z : Nat → Int64, z = (fun _ => 0) := ⟨_, rfl⟩
 rw [← d_f167] at V167
 have Y173 := Y141.ext E167
 have Y174 := Y142.ext E167
 have Y175 := Y143.ext E167
 have Y176 := Y144.ext E167
 have Y179 := Y147.ext E167
 have Y180 := Y148.ext E167
 have Y181 := Y149.ext E167
 have Y182 := Y150.ext E167
 have Y183 := Y151.ext E167
 have Y184 := Y152.ext E167
 have Y185 := Y153.ext E167
 have Y186 := Y154.ext E167
 have Y187 := Y155.ext E167
 have Y188 := Y156.ext E167
 have Y189 := Y157.ext E167
 have Y190 := Y158.ext E167
 have Y191 := Y159.ext E167
 have Y192 := Y160.ext E167
 have Y194 := Y162.ext E167
 refine o_q T167 (o_f10 m 35 pp (16 : Int32) [(.ref b167), (.ref pp)]) st167 ?_
 refine o_pF X167 hx hZ e167 hby (ty := (.array .long)) hown (o_m hw 34 rfl) Y179 Y174 (Or.inr ⟨(o_m hw 35 rfl), rfl, hnm⟩) (o_m hw 8 rfl) (by decide) rfl rfl o_d3_35 fun T199 h199 X199 e199 W199 => ?_
 have Fw199 := Y179.same W199
 have N_199 := Fr.snoc X199 N_139 gp0
 have Y201 := Y173.wr W199
 have Y202 := Y174.wr W199
 have Y203 := Y175.wr W199
 have Y204 := Y176.other W199 (o_sn (Or.inr (o_m hw 26 rfl)) (Or.inr (o_m hw 35 rfl)))
 have Y208 := Y180.other W199 (o_sn (Or.inl (o_m hw 39 rfl)) (Or.inr (o_m hw 35 rfl)))
 have Y209 := Y181.other W199 (o_sn (Or.inr (o_m hw 41 rfl)) (Or.inr (o_m hw 35 rfl)))
 have Y210 := Y182.other W199 (o_sn (Or.inl (o_m hw 44 rfl)) (Or.inr (o_m hw 35 rfl)))
 have Y211 := Y183.other W199 (o_sn (Or.inl (o_m hw 47 rfl)) (Or.inr (o_m hw 35 rfl)))
 have Y212 := Y184.other W199 (o_sn (Or.inl (o_m hw 49 rfl)) (Or.inr (o_m hw 35 rfl)))
 have Y213 := Y185.other W199 (o_sn (Or.inl (o_m hw 66 rfl)) (Or.inr (o_m hw 35 rfl)))
 have Y214 := Y186.other W199 (o_sn (Or.inl (o_m hw 68 rfl)) (Or.inr (o_m hw 35 rfl)))
 have Y215 := Y187.other W199 (o_sn (Or.inl (o_m hw 80 rfl)) (Or.inr (o_m hw 35 rfl)))
 have Y216 := Y188.other W199 (o_sn (Or.inl (o_m hw 95 rfl)) (Or.inr (o_m hw 35 rfl)))
 have Y217 := Y189.other W199 (o_sn (Or.inl (o_m hw 149 rfl)) (Or.inr (o_m hw 35 rfl)))
 have Y218 := Y190.other W199 (o_sn (Or.inl (o_m hw 177 rfl)) (Or.inr (o_m hw 35 rfl)))
 have Y219 := Y191.other W199 (o_sn (Or.inl (o_m hw 179 rfl)) (Or.inr (o_m hw 35 rfl)))
 have Y220 := Y192.wr W199
 have Y222 := Y194.other W199 (Or.inl (Ne.symm ne4))
 have Y227 := V167.other W199 (Ne.symm ne168)
 refine o_q T199 (o_f10 m 39 pp (16 : Int32) [(.ref pp)]) (fun _ k9 => XS.aloadN X199.here hx rfl (hb hby o_d3_38) rfl rfl k9) ?_
 obtain ⟨T228, X228, e228, st228⟩ := getS2 X199 hx hZ hown (host := "") (Or.inl (o_m hw 36 rfl)) Via.refl e199 Y201 (g := (o_f10 m 39 pp (16 : Int32) [(.ref pp)])) rfl (hb hby o_d3_39)
 refine o_q T228 (o_f10 m 42 pp (16 : Int32) [(.ref wa), (.ref pp)]) st228 ?_
 refine o_pF X228 hx hZ e228 hby (ty := (.object o_n4)) hown (o_m hw 38 rfl) Y208 Y202 (Or.inl (o_m hw 39 rfl)) (o_m hw 8 rfl) (by decide) rfl rfl o_d3_42 fun T229 h229 X229 e229 W229 => ?_
 have Fw229 := Y208.same W229
 have N_229 := Fr.snoc X229 N_199 gp0
 have Y232 := Y202.wr W229
 have Y233 := Y203.wr W229
 have Y234 := Y204.other W229 (o_sn (Or.inr (o_m hw 26 rfl)) (Or.inl (o_m hw 39 rfl)))
 have Y237 := Fw199.other W229 (o_sn (Or.inr (o_m hw 35 rfl)) (Or.inl (o_m hw 39 rfl)))
 have Y239 := Y209.other W229 (o_sn (Or.inr (o_m hw 41 rfl)) (Or.inl (o_m hw 39 rfl)))
 have Y240 := Y210.other W229 (o_sn (Or.inl (o_m hw 44 rfl)) (Or.inl (o_m hw 39 rfl)))
 have Y241 := Y211.other W229 (o_sn (Or.inl (o_m hw 47 rfl)) (Or.inl (o_m hw 39 rfl)))
 have Y242 := Y212.other W229 (o_sn (Or.inl (o_m hw 49 rfl)) (Or.inl (o_m hw 39 rfl)))
 have Y243 := Y213.other W229 (o_sn (Or.inl (o_m hw 66 rfl)) (Or.inl (o_m hw 39 rfl)))
 have Y244 := Y214.other W229 (o_sn (Or.inl (o_m hw 68 rfl)) (Or.inl (o_m hw 39 rfl)))
 have Y245 := Y215.other W229 (o_sn (Or.inl (o_m hw 80 rfl)) (Or.inl (o_m hw 39 rfl)))
 have Y246 := Y216.other W229 (o_sn (Or.inl (o_m hw 95 rfl)) (Or.inl (o_m hw 39 rfl)))
 have Y247 := Y217.other W229 (o_sn (Or.inl (o_m hw 149 rfl)) (Or.inl (o_m hw 39 rfl)))
 have Y248 := Y218.other W229 (o_sn (Or.inl (o_m hw 177 rfl)) (Or.inl (o_m hw 39 rfl)))
 have Y249 := Y219.other W229 (o_sn (Or.inl (o_m hw 179 rfl)) (Or.inl (o_m hw 39 rfl)))
 have Y250 := Y220.wr W229
 have Y252 := Y222.other W229 (Or.inl (Ne.symm ne4))
 have Y257 := Y227.other W229 (Ne.symm ne168)
 refine o_q T229 (o_f10 m 46 pp (16 : Int32) [(.ref pp)]) (fun _ k9 => XS.aloadN X229.here hx rfl (hb hby o_d3_45) rfl rfl k9) ?_
 refine o_q T229 (o_f10 m 47 pp (16 : Int32) [(.int (16 : Int32)), (.ref pp)]) (fun _ k9 => XS.iloadN X229.here hx rfl (hb hby o_d3_46) rfl k9) ?_
 refine o_pF X229 hx hZ e229 hby (ty := .int) hown (o_m hw 40 rfl) Y239 Y232 (Or.inr ⟨(o_m hw 41 rfl), rfl, hnm⟩) (o_m hw 8 rfl) (by decide) rfl rfl o_d3_47 fun T258 h258 X258 e258 W258 => ?_
 have Fw258 := Y239.same W258
 have N_258 := Fr.snoc X258 N_229 gp0
 have Y261 := Y232.wr W258
 have Y262 := Y233.wr W258
 have Y263 := Y234.other W258 (o_sn (Or.inr (o_m hw 26 rfl)) (Or.inr (o_m hw 41 rfl)))
 have Y266 := Y237.other W258 (o_sn (Or.inr (o_m hw 35 rfl)) (Or.inr (o_m hw 41 rfl)))
 have Y267 := Fw229.other W258 (o_sn (Or.inl (o_m hw 39 rfl)) (Or.inr (o_m hw 41 rfl)))
 have Y269 := Y240.other W258 (o_sn (Or.inl (o_m hw 44 rfl)) (Or.inr (o_m hw 41 rfl)))
 have Y270 := Y241.other W258 (o_sn (Or.inl (o_m hw 47 rfl)) (Or.inr (o_m hw 41 rfl)))
 have Y271 := Y242.other W258 (o_sn (Or.inl (o_m hw 49 rfl)) (Or.inr (o_m hw 41 rfl)))
 have Y272 := Y243.other W258 (o_sn (Or.inl (o_m hw 66 rfl)) (Or.inr (o_m hw 41 rfl)))
 have Y273 := Y244.other W258 (o_sn (Or.inl (o_m hw 68 rfl)) (Or.inr (o_m hw 41 rfl)))
 have Y274 := Y245.other W258 (o_sn (Or.inl (o_m hw 80 rfl)) (Or.inr (o_m hw 41 rfl)))
 have Y275 := Y246.other W258 (o_sn (Or.inl (o_m hw 95 rfl)) (Or.inr (o_m hw 41 rfl)))
 have Y276 := Y247.other W258 (o_sn (Or.inl (o_m hw 149 rfl)) (Or.inr (o_m hw 41 rfl)))
 have Y277 := Y248.other W258 (o_sn (Or.inl (o_m hw 177 rfl)) (Or.inr (o_m hw 41 rfl)))
 have Y278 := Y249.other W258 (o_sn (Or.inl (o_m hw 179 rfl)) (Or.inr (o_m hw 41 rfl)))
 have Y279 := Y250.wr W258
 have Y281 := Y252.other W258 (Or.inl (Ne.symm ne4))
 have Y286 := Y257.other W258 (Ne.symm ne168)
 refine o_q T258 (o_f10 m 51 pp (16 : Int32) [(.ref pp)]) (fun _ k9 => XS.aloadN X258.here hx rfl (hb hby o_d3_50) rfl rfl k9) ?_
 refine o_iC (4 : Int32) X258 hx hby o_d3_51 rfl ?_
 obtain ⟨T287, h287, k287, X287, e287, E287, A287, st287⟩ := newP X258 hx hZ (o_m hw 27 rfl) e258 (g := (o_f10 m 52 pp (16 : Int32) [(.int (4 : Int32)), (.ref pp)])) rfl (hb hby o_d3_52) rfl (by decide) (cap := 4) (by decide) (by decide) (by decide) (by decide)
 obtain ⟨b287, g287⟩ : ∃ z, z = h258.size := ⟨_, rfl⟩
 rw [← g287] at A287 st287
 have ne288 : o_ne pp b287 := Nat.ne_of_lt (Nat.lt_of_lt_of_le Y261.lt (Nat.le_of_eq g287.symm))
 have ne290 : o_ne b3 b287 := Nat.ne_of_lt (Nat.lt_of_lt_of_le Y279.lt (Nat.le_of_eq g287.symm))
 have ne292 : o_ne b167 b287 := Nat.ne_of_lt (Nat.lt_of_lt_of_le Y286.lt (Nat.le_of_eq g287.symm))
 have g_b287 : n0 ≤ b287 := Nat.le_trans (Nat.le_of_lt (Nat.lt_of_le_of_lt gp0 Y261.lt)) (Nat.le_of_eq g287.symm)
 have V287 : o_LA Z h287 b287 (4 : Int32) (fun _ => 0) := o_new0 A287 (by decide) rfl
 obtain ⟨f287, d_f287⟩ : ∃ z : Nat → Int64, z = (fun _ => 0) := ⟨_, rfl⟩
 rw [← d_f287] at V287
 have Y295 := Y261.ext E287
 have Y296 := Y262.ext E287
 have Y297 := Y263.ext E287
 have Y300 := Y266.ext E287
 have Y301 := Y267.ext E287
 have Y302 := Fw258.ext E287
 have Y303 := Y269.ext E287
 have Y304 := Y270.ext E287
 have Y305 := Y271.ext E287
 have Y306 := Y272.ext E287
 have Y307 := Y273.ext E287
 have Y308 := Y274.ext E287
 have Y309 := Y275.ext E287
 have Y310 := Y276.ext E287
 have Y311 := Y277.ext E287
 have Y312 := Y278.ext E287
 have Y313 := Y279.ext E287
 have Y315 := Y281.ext E287
 have Y320 := Y286.ext E287
 refine o_q T287 (o_f10 m 54 pp (16 : Int32) [(.ref b287), (.ref pp)]) st287 ?_
 refine o_q T287 (o_f10 m 55 pp (16 : Int32) [(.ref b287), (.ref b287), (.ref pp)]) (fun _ k9 => XS.dup X287.here hx rfl (hb hby o_d3_54) rfl rfl k9) ?_
 refine o_iC (0 : Int32) X287 hx hby o_d3_55 rfl ?_
 refine o_q T287 (o_f10 m 59 pp (16 : Int32) [(.long (-9223372036854775808 : Int64)), (.int (0 : Int32)), (.ref b287), (.ref b287), (.ref pp)]) (fun _ k9 => X287.ldc2Long hx hown (mvT hZ (o_m hw 42 rfl)) (g := (o_f10 m 56 pp (16 : Int32) [(.int (0 : Int32)), (.ref b287), (.ref b287), (.ref pp)])) rfl (hb hby o_d3_56) _ k9) ?_
 have hin321 : ¬ ((0 : Int32) < (0 : Int32)) ∧ (0 : Int32) < (4 : Int32) := by
  have k1 : (0 : Int32).toInt = 0 := by decide
  have k2 : (4 : Int32).toInt = 4 := by decide
  rw [Int32.lt_iff_toInt_lt, Int32.lt_iff_toInt_lt]
  omega
 refine o_tJ X287 hx hZ e287 hby V287 hin321 o_d3_59 fun T322 h322 X322 e322 W322 A322 => ?_
 obtain ⟨f322, d_f322⟩ : ∃ z : Nat → Int64, z = (fun i => if i = (0 : Int32).toNatClampNeg then (-9223372036854775808 : Int64) else f287 i) := ⟨_, rfl⟩
 rw [← d_f322] at A322
 have N_322 := Fr.snoc X322 N_258 g_b287
 have Y325 := Y295.wr W322
 have Y326 := Y296.wr W322
 have Y327 := Y297.other W322 (Or.inl ne288)
 have Y330 := Y300.other W322 (Or.inl ne288)
 have Y331 := Y301.other W322 (Or.inl ne288)
 have Y332 := Y302.other W322 (Or.inl ne288)
 have Y333 := Y303.other W322 (Or.inl ne288)
 have Y334 := Y304.other W322 (Or.inl ne288)
 have Y335 := Y305.other W322 (Or.inl ne288)
 have Y336 := Y306.other W322 (Or.inl ne288)
 have Y337 := Y307.other W322 (Or.inl ne288)
 have Y338 := Y308.other W322 (Or.inl ne288)
 have Y339 := Y309.other W322 (Or.inl ne288)
 have Y340 := Y310.other W322 (Or.inl ne288)
 have Y341 := Y311.other W322 (Or.inl ne288)
 have Y342 := Y312.other W322 (Or.inl ne288)
 have Y343 := Y313.wr W322
 have Y345 := Y315.other W322 (Or.inl ne290)
 have Y350 := Y320.other W322 ne292
 refine o_q T322 (o_f10 m 61 pp (16 : Int32) [(.ref b287), (.ref b287), (.ref pp)]) (fun _ k9 => XS.dup X322.here hx rfl (hb hby o_d3_60) rfl rfl k9) ?_
 refine o_iC (1 : Int32) X322 hx hby o_d3_61 rfl ?_
 refine o_lC (0 : Int64) X322 hx hby o_d3_62 rfl ?_
 have hin352 : ¬ ((1 : Int32) < (0 : Int32)) ∧ (1 : Int32) < (4 : Int32) := by
  have k1 : (1 : Int32).toInt = 1 := by decide
  have k2 : (4 : Int32).toInt = 4 := by decide
  have k3 : (0 : Int32).toInt = 0 := by decide
  rw [Int32.lt_iff_toInt_lt, Int32.lt_iff_toInt_lt]
  omega
 refine o_tJ X322 hx hZ e322 hby A322 hin352 o_d3_63 fun T353 h353 X353 e353 W353 A353 => ?_
 obtain ⟨f353, d_f353⟩ : ∃ z : Nat → Int64, z = (fun i => if i = (1 : Int32).toNatClampNeg then (0 : Int64) else f322 i) := ⟨_, rfl⟩
 rw [← d_f353] at A353
 have N_353 := Fr.snoc X353 N_322 g_b287
 have Y356 := Y325.wr W353
 have Y357 := Y326.wr W353
 have Y358 := Y327.other W353 (Or.inl ne288)
 have Y361 := Y330.other W353 (Or.inl ne288)
 have Y362 := Y331.other W353 (Or.inl ne288)
 have Y363 := Y332.other W353 (Or.inl ne288)
 have Y364 := Y333.other W353 (Or.inl ne288)
 have Y365 := Y334.other W353 (Or.inl ne288)
 have Y366 := Y335.other W353 (Or.inl ne288)
 have Y367 := Y336.other W353 (Or.inl ne288)
 have Y368 := Y337.other W353 (Or.inl ne288)
 have Y369 := Y338.other W353 (Or.inl ne288)
 have Y370 := Y339.other W353 (Or.inl ne288)
 have Y371 := Y340.other W353 (Or.inl ne288)
 have Y372 := Y341.other W353 (Or.inl ne288)
 have Y373 := Y342.other W353 (Or.inl ne288)
 have Y374 := Y343.wr W353
 have Y376 := Y345.other W353 (Or.inl ne290)
 have Y381 := Y350.other W353 ne292
 refine o_q T353 (o_f10 m 65 pp (16 : Int32) [(.ref b287), (.ref b287), (.ref pp)]) (fun _ k9 => XS.dup X353.here hx rfl (hb hby o_d3_64) rfl rfl k9) ?_
 refine o_iC (2 : Int32) X353 hx hby o_d3_65 rfl ?_
 refine o_lC (0 : Int64) X353 hx hby o_d3_66 rfl ?_
 have hin383 : ¬ ((2 : Int32) < (0 : Int32)) ∧ (2 : Int32) < (4 : Int32) := by
  have k1 : (2 : Int32).toInt = 2 := by decide
  have k2 : (4 : Int32).toInt = 4 := by decide
  have k3 : (0 : Int32).toInt = 0 := by decide
  rw [Int32.lt_iff_toInt_lt, Int32.lt_iff_toInt_lt]
  omega
 refine o_tJ X353 hx hZ e353 hby A353 hin383 o_d3_67 fun T384 h384 X384 e384 W384 A384 => ?_
 obtain ⟨f384, d_f384⟩ : ∃ z : Nat → Int64, z = (fun i => if i = (2 : Int32).toNatClampNeg then (0 : Int64) else f353 i) := ⟨_, rfl⟩
 rw [← d_f384] at A384
 have N_384 := Fr.snoc X384 N_353 g_b287
 have Y387 := Y356.wr W384
 have Y388 := Y357.wr W384
 have Y389 := Y358.other W384 (Or.inl ne288)
 have Y392 := Y361.other W384 (Or.inl ne288)
 have Y393 := Y362.other W384 (Or.inl ne288)
 have Y394 := Y363.other W384 (Or.inl ne288)
 have Y395 := Y364.other W384 (Or.inl ne288)
 have Y396 := Y365.other W384 (Or.inl ne288)
 have Y397 := Y366.other W384 (Or.inl ne288)
 have Y398 := Y367.other W384 (Or.inl ne288)
 have Y399 := Y368.other W384 (Or.inl ne288)
 have Y400 := Y369.other W384 (Or.inl ne288)
 have Y401 := Y370.other W384 (Or.inl ne288)
 have Y402 := Y371.other W384 (Or.inl ne288)
 have Y403 := Y372.other W384 (Or.inl ne288)
 have Y404 := Y373.other W384 (Or.inl ne288)
 have Y405 := Y374.wr W384
 have Y407 := Y376.other W384 (Or.inl ne290)
 have Y412 := Y381.other W384 ne292
 refine o_q T384 (o_f10 m 69 pp (16 : Int32) [(.ref b287), (.ref b287), (.ref pp)]) (fun _ k9 => XS.dup X384.here hx rfl (hb hby o_d3_68) rfl rfl k9) ?_
 refine o_iC (3 : Int32) X384 hx hby o_d3_69 rfl ?_
 refine o_lC (0 : Int64) X384 hx hby o_d3_70 rfl ?_
 have hin414 : ¬ ((3 : Int32) < (0 : Int32)) ∧ (3 : Int32) < (4 : Int32) := by
  have k1 : (3 : Int32).toInt = 3 := by decide
  have k2 : (4 : Int32).toInt = 4 := by decide
  have k3 : (0 : Int32).toInt = 0 := by decide
  rw [Int32.lt_iff_toInt_lt, Int32.lt_iff_toInt_lt]
  omega
 refine o_tJ X384 hx hZ e384 hby A384 hin414 o_d3_71 fun T415 h415 X415 e415 W415 A415 => ?_
 obtain ⟨f415, d_f415⟩ : ∃ z : Nat → Int64, z = (fun i => if i = (3 : Int32).toNatClampNeg then (0 : Int64) else f384 i) := ⟨_, rfl⟩
 rw [← d_f415] at A415
 have N_415 := Fr.snoc X415 N_384 g_b287
 have Y418 := Y387.wr W415
 have Y419 := Y388.wr W415
 have Y420 := Y389.other W415 (Or.inl ne288)
 have Y423 := Y392.other W415 (Or.inl ne288)
 have Y424 := Y393.other W415 (Or.inl ne288)
 have Y425 := Y394.other W415 (Or.inl ne288)
 have Y426 := Y395.other W415 (Or.inl ne288)
 have Y427 := Y396.other W415 (Or.inl ne288)
 have Y428 := Y397.other W415 (Or.inl ne288)
 have Y429 := Y398.other W415 (Or.inl ne288)
 have Y430 := Y399.other W415 (Or.inl ne288)
 have Y431 := Y400.other W415 (Or.inl ne288)
 have Y432 := Y401.other W415 (Or.inl ne288)
 have Y433 := Y402.other W415 (Or.inl ne288)
 have Y434 := Y403.other W415 (Or.inl ne288)
 have Y435 := Y404.other W415 (Or.inl ne288)
 have Y436 := Y405.wr W415
 have Y438 := Y407.other W415 (Or.inl ne290)
 have Y443 := Y412.other W415 ne292
 refine o_pF X415 hx hZ e415 hby (ty := (.array .long)) hown (o_m hw 43 rfl) Y426 Y418 (Or.inl (o_m hw 44 rfl)) (o_m hw 8 rfl) (by decide) rfl rfl o_d3_72 fun T445 h445 X445 e445 W445 => ?_
 have Fw445 := Y426.same W445
 have N_445 := Fr.snoc X445 N_415 gp0
 have Y448 := Y418.wr W445
 have Y449 := Y419.wr W445
 have Y450 := Y420.other W445 (o_sn (Or.inr (o_m hw 26 rfl)) (Or.inl (o_m hw 44 rfl)))
 have Y453 := Y423.other W445 (o_sn (Or.inr (o_m hw 35 rfl)) (Or.inl (o_m hw 44 rfl)))
 have Y454 := Y424.other W445 (o_sn (Or.inl (o_m hw 39 rfl)) (Or.inl (o_m hw 44 rfl)))
 have Y455 := Y425.other W445 (o_sn (Or.inr (o_m hw 41 rfl)) (Or.inl (o_m hw 44 rfl)))
 have Y457 := Y427.other W445 (o_sn (Or.inl (o_m hw 47 rfl)) (Or.inl (o_m hw 44 rfl)))
 have Y458 := Y428.other W445 (o_sn (Or.inl (o_m hw 49 rfl)) (Or.inl (o_m hw 44 rfl)))
 have Y459 := Y429.other W445 (o_sn (Or.inl (o_m hw 66 rfl)) (Or.inl (o_m hw 44 rfl)))
 have Y460 := Y430.other W445 (o_sn (Or.inl (o_m hw 68 rfl)) (Or.inl (o_m hw 44 rfl)))
 have Y461 := Y431.other W445 (o_sn (Or.inl (o_m hw 80 rfl)) (Or.inl (o_m hw 44 rfl)))
 have Y462 := Y432.other W445 (o_sn (Or.inl (o_m hw 95 rfl)) (Or.inl (o_m hw 44 rfl)))
 have Y463 := Y433.other W445 (o_sn (Or.inl (o_m hw 149 rfl)) (Or.inl (o_m hw 44 rfl)))
 have Y464 := Y434.other W445 (o_sn (Or.inl (o_m hw 177 rfl)) (Or.inl (o_m hw 44 rfl)))
 have Y465 := Y435.other W445 (o_sn (Or.inl (o_m hw 179 rfl)) (Or.inl (o_m hw 44 rfl)))
 have Y466 := Y436.wr W445
 have Y468 := Y438.other W445 (Or.inl (Ne.symm ne4))
 have Y473 := Y443.other W445 (Ne.symm ne168)
 have Y474 := A415.other W445 (Ne.symm ne288)
 refine o_q T445 (o_f10 m 76 pp (16 : Int32) [(.ref pp)]) (fun _ k9 => XS.aloadN X445.here hx rfl (hb hby o_d3_75) rfl rfl k9) ?_
 refine o_iC (4 : Int32) X445 hx hby o_d3_76 rfl ?_
 obtain ⟨T475, h475, k475, X475, e475, E475, A475, st475⟩ := newP X445 hx hZ (o_m hw 45 rfl) e445 (g := (o_f10 m 77 pp (16 : Int32) [(.int (4 : Int32)), (.ref pp)])) rfl (hb hby o_d3_77) rfl (by decide) (cap := 4) (by decide) (by decide) (by decide) (by decide)
 obtain ⟨b475, g475⟩ : ∃ z, z = h445.size := ⟨_, rfl⟩
 rw [← g475] at A475 st475
 have ne476 : o_ne pp b475 := Nat.ne_of_lt (Nat.lt_of_lt_of_le Y448.lt (Nat.le_of_eq g475.symm))
 have ne478 : o_ne b3 b475 := Nat.ne_of_lt (Nat.lt_of_lt_of_le Y466.lt (Nat.le_of_eq g475.symm))
 have ne480 : o_ne b167 b475 := Nat.ne_of_lt (Nat.lt_of_lt_of_le Y473.lt (Nat.le_of_eq g475.symm))
 have ne481 : o_ne b287 b475 := Nat.ne_of_lt (Nat.lt_of_lt_of_le Y474.lt (Nat.le_of_eq g475.symm))
 have g_b475 : n0 ≤ b475 := Nat.le_trans (Nat.le_of_lt (Nat.lt_of_le_of_lt gp0 Y448.lt)) (Nat.le_of_eq g475.symm)
 have V475 : o_IA Z h475 b475 (4 : Int32) (fun _ => 0) := o_new0 A475 (by decide) rfl
 obtain ⟨f475, d_f475⟩ : ∃ z : Nat → Int32, z = (fun _ => 0) := ⟨_, rfl⟩
 rw [← d_f475] at V475
 have Y484 := Y448.ext E475
 have Y485 := Y449.ext E475
 have Y486 := Y450.ext E475
 have Y489 := Y453.ext E475
 have Y490 := Y454.ext E475
 have Y491 := Y455.ext E475
 have Y492 := Fw445.ext E475
 have Y493 := Y457.ext E475
 have Y494 := Y458.ext E475
 have Y495 := Y459.ext E475
 have Y496 := Y460.ext E475
 have Y497 := Y461.ext E475
 have Y498 := Y462.ext E475
 have Y499 := Y463.ext E475
 have Y500 := Y464.ext E475
 have Y501 := Y465.ext E475
 have Y502 := Y466.ext E475
 have Y504 := Y468.ext E475
 have Y509 := Y473.ext E475
 have Y510 := Y474.ext E475
 refine o_q T475 (o_f10 m 79 pp (16 : Int32) [(.ref b475), (.ref pp)]) st475 ?_
 refine o_q T475 (o_f10 m 80 pp (16 : Int32) [(.ref b475), (.ref b475), (.ref pp)]) (fun _ k9 => XS.dup X475.here hx rfl (hb hby o_d3_79) rfl rfl k9) ?_
 refine o_iC (0 : Int32) X475 hx hby o_d3_80 rfl ?_
 refine o_q T475 (o_f10 m 82 pp (16 : Int32) [(.int (16 : Int32)), (.int (0 : Int32)), (.ref b475), (.ref b475), (.ref pp)]) (fun _ k9 => XS.iloadN X475.here hx rfl (hb hby o_d3_81) rfl k9) ?_
 have hin511 : ¬ ((0 : Int32) < (0 : Int32)) ∧ (0 : Int32) < (4 : Int32) := by
  have k1 : (0 : Int32).toInt = 0 := by decide
  have k2 : (4 : Int32).toInt = 4 := by decide
  rw [Int32.lt_iff_toInt_lt, Int32.lt_iff_toInt_lt]
  omega
 refine o_tI X475 hx hZ e475 hby V475 hin511 o_d3_82 fun T512 h512 X512 e512 W512 A512 => ?_
 obtain ⟨f512, d_f512⟩ : ∃ z : Nat → Int32, z = (fun i => if i = (0 : Int32).toNatClampNeg then (16 : Int32) else f475 i) := ⟨_, rfl⟩
 rw [← d_f512] at A512
 have N_512 := Fr.snoc X512 N_445 g_b475
 have Y515 := Y484.wr W512
 have Y516 := Y485.wr W512
 have Y517 := Y486.other W512 (Or.inl ne476)
 have Y520 := Y489.other W512 (Or.inl ne476)
 have Y521 := Y490.other W512 (Or.inl ne476)
 have Y522 := Y491.other W512 (Or.inl ne476)
 have Y523 := Y492.other W512 (Or.inl ne476)
 have Y524 := Y493.other W512 (Or.inl ne476)
 have Y525 := Y494.other W512 (Or.inl ne476)
 have Y526 := Y495.other W512 (Or.inl ne476)
 have Y527 := Y496.other W512 (Or.inl ne476)
 have Y528 := Y497.other W512 (Or.inl ne476)
 have Y529 := Y498.other W512 (Or.inl ne476)
 have Y530 := Y499.other W512 (Or.inl ne476)
 have Y531 := Y500.other W512 (Or.inl ne476)
 have Y532 := Y501.other W512 (Or.inl ne476)
 have Y533 := Y502.wr W512
 have Y535 := Y504.other W512 (Or.inl ne478)
 have Y540 := Y509.other W512 ne480
 have Y541 := Y510.other W512 ne481
 refine o_q T512 (o_f10 m 84 pp (16 : Int32) [(.ref b475), (.ref b475), (.ref pp)]) (fun _ k9 => XS.dup X512.here hx rfl (hb hby o_d3_83) rfl rfl k9) ?_
 refine o_iC (1 : Int32) X512 hx hby o_d3_84 rfl ?_
 refine o_iC (0 : Int32) X512 hx hby o_d3_85 rfl ?_
 have hin543 : ¬ ((1 : Int32) < (0 : Int32)) ∧ (1 : Int32) < (4 : Int32) := by
  have k1 : (1 : Int32).toInt = 1 := by decide
  have k2 : (4 : Int32).toInt = 4 := by decide
  have k3 : (0 : Int32).toInt = 0 := by decide
  rw [Int32.lt_iff_toInt_lt, Int32.lt_iff_toInt_lt]
  omega
 refine o_tI X512 hx hZ e512 hby A512 hin543 o_d3_86 fun T544 h544 X544 e544 W544 A544 => ?_
 obtain ⟨f544, d_f544⟩ : ∃ z : Nat → Int32, z = (fun i => if i = (1 : Int32).toNatClampNeg then (0 : Int32) else f512 i) := ⟨_, rfl⟩
 rw [← d_f544] at A544
 have N_544 := Fr.snoc X544 N_512 g_b475
 have Y547 := Y515.wr W544
 have Y548 := Y516.wr W544
 have Y549 := Y517.other W544 (Or.inl ne476)
 have Y552 := Y520.other W544 (Or.inl ne476)
 have Y553 := Y521.other W544 (Or.inl ne476)
 have Y554 := Y522.other W544 (Or.inl ne476)
 have Y555 := Y523.other W544 (Or.inl ne476)
 have Y556 := Y524.other W544 (Or.inl ne476)
 have Y557 := Y525.other W544 (Or.inl ne476)
 have Y558 := Y526.other W544 (Or.inl ne476)
 have Y559 := Y527.other W544 (Or.inl ne476)
 have Y560 := Y528.other W544 (Or.inl ne476)
 have Y561 := Y529.other W544 (Or.inl ne476)
 have Y562 := Y530.other W544 (Or.inl ne476)
 have Y563 := Y531.other W544 (Or.inl ne476)
 have Y564 := Y532.other W544 (Or.inl ne476)
 have Y565 := Y533.wr W544
 have Y567 := Y535.other W544 (Or.inl ne478)
 have Y572 := Y540.other W544 ne480
 have Y573 := Y541.other W544 ne481
 refine o_q T544 (o_f10 m 88 pp (16 : Int32) [(.ref b475), (.ref b475), (.ref pp)]) (fun _ k9 => XS.dup X544.here hx rfl (hb hby o_d3_87) rfl rfl k9) ?_
 refine o_iC (2 : Int32) X544 hx hby o_d3_88 rfl ?_
 refine o_iC (0 : Int32) X544 hx hby o_d3_89 rfl ?_
 have hin575 : ¬ ((2 : Int32) < (0 : Int32)) ∧ (2 : Int32) < (4 : Int32) := by
  have k1 : (2 : Int32).toInt = 2 := by decide
  have k2 : (4 : Int32).toInt = 4 := by decide
  have k3 : (0 : Int32).toInt = 0 := by decide
  rw [Int32.lt_iff_toInt_lt, Int32.lt_iff_toInt_lt]
  omega
 refine o_tI X544 hx hZ e544 hby A544 hin575 o_d3_90 fun T576 h576 X576 e576 W576 A576 => ?_
 obtain ⟨f576, d_f576⟩ : ∃ z : Nat → Int32, z = (fun i => if i = (2 : Int32).toNatClampNeg then (0 : Int32) else f544 i) := ⟨_, rfl⟩
 rw [← d_f576] at A576
 have N_576 := Fr.snoc X576 N_544 g_b475
 have Y579 := Y547.wr W576
 have Y580 := Y548.wr W576
 have Y581 := Y549.other W576 (Or.inl ne476)
 have Y584 := Y552.other W576 (Or.inl ne476)
 have Y585 := Y553.other W576 (Or.inl ne476)
 have Y586 := Y554.other W576 (Or.inl ne476)
 have Y587 := Y555.other W576 (Or.inl ne476)
 have Y588 := Y556.other W576 (Or.inl ne476)
 have Y589 := Y557.other W576 (Or.inl ne476)
 have Y590 := Y558.other W576 (Or.inl ne476)
 have Y591 := Y559.other W576 (Or.inl ne476)
 have Y592 := Y560.other W576 (Or.inl ne476)
 have Y593 := Y561.other W576 (Or.inl ne476)
 have Y594 := Y562.other W576 (Or.inl ne476)
 have Y595 := Y563.other W576 (Or.inl ne476)
 have Y596 := Y564.other W576 (Or.inl ne476)
 have Y597 := Y565.wr W576
 have Y599 := Y567.other W576 (Or.inl ne478)
 have Y604 := Y572.other W576 ne480
 have Y605 := Y573.other W576 ne481
 refine o_q T576 (o_f10 m 92 pp (16 : Int32) [(.ref b475), (.ref b475), (.ref pp)]) (fun _ k9 => XS.dup X576.here hx rfl (hb hby o_d3_91) rfl rfl k9) ?_
 refine o_iC (3 : Int32) X576 hx hby o_d3_92 rfl ?_
 refine o_iC (0 : Int32) X576 hx hby o_d3_93 rfl ?_
 have hin607 : ¬ ((3 : Int32) < (0 : Int32)) ∧ (3 : Int32) < (4 : Int32) := by
  have k1 : (3 : Int32).toInt = 3 := by decide
  have k2 : (4 : Int32).toInt = 4 := by decide
  have k3 : (0 : Int32).toInt = 0 := by decide
  rw [Int32.lt_iff_toInt_lt, Int32.lt_iff_toInt_lt]
  omega
 refine o_tI X576 hx hZ e576 hby A576 hin607 o_d3_94 fun T608 h608 X608 e608 W608 A608 => ?_
 obtain ⟨f608, d_f608⟩ : ∃ z : Nat → Int32, z = (fun i => if i = (3 : Int32).toNatClampNeg then (0 : Int32) else f576 i) := ⟨_, rfl⟩
 rw [← d_f608] at A608
 have N_608 := Fr.snoc X608 N_576 g_b475
 have Y611 := Y579.wr W608
 have Y612 := Y580.wr W608
 have Y613 := Y581.other W608 (Or.inl ne476)
 have Y616 := Y584.other W608 (Or.inl ne476)
 have Y617 := Y585.other W608 (Or.inl ne476)
 have Y618 := Y586.other W608 (Or.inl ne476)
 have Y619 := Y587.other W608 (Or.inl ne476)
 have Y620 := Y588.other W608 (Or.inl ne476)
 have Y621 := Y589.other W608 (Or.inl ne476)
 have Y622 := Y590.other W608 (Or.inl ne476)
 have Y623 := Y591.other W608 (Or.inl ne476)
 have Y624 := Y592.other W608 (Or.inl ne476)
 have Y625 := Y593.other W608 (Or.inl ne476)
 have Y626 := Y594.other W608 (Or.inl ne476)
 have Y627 := Y595.other W608 (Or.inl ne476)
 have Y628 := Y596.other W608 (Or.inl ne476)
 have Y629 := Y597.wr W608
 have Y631 := Y599.other W608 (Or.inl ne478)
 have Y636 := Y604.other W608 ne480
 have Y637 := Y605.other W608 ne481
 refine o_pF X608 hx hZ e608 hby (ty := (.array .int)) hown (o_m hw 46 rfl) Y620 Y611 (Or.inl (o_m hw 47 rfl)) (o_m hw 8 rfl) (by decide) rfl rfl o_d3_95 fun T639 h639 X639 e639 W639 => ?_
 have Fw639 := Y620.same W639
 have N_639 := Fr.snoc X639 N_608 gp0
 have Y642 := Y611.wr W639
 have Y643 := Y612.wr W639
 have Y644 := Y613.other W639 (o_sn (Or.inr (o_m hw 26 rfl)) (Or.inl (o_m hw 47 rfl)))
 have Y647 := Y616.other W639 (o_sn (Or.inr (o_m hw 35 rfl)) (Or.inl (o_m hw 47 rfl)))
 have Y648 := Y617.other W639 (o_sn (Or.inl (o_m hw 39 rfl)) (Or.inl (o_m hw 47 rfl)))
 have Y649 := Y618.other W639 (o_sn (Or.inr (o_m hw 41 rfl)) (Or.inl (o_m hw 47 rfl)))
 have Y650 := Y619.other W639 (o_sn (Or.inl (o_m hw 44 rfl)) (Or.inl (o_m hw 47 rfl)))
 have Y652 := Y621.other W639 (o_sn (Or.inl (o_m hw 49 rfl)) (Or.inl (o_m hw 47 rfl)))
 have Y653 := Y622.other W639 (o_sn (Or.inl (o_m hw 66 rfl)) (Or.inl (o_m hw 47 rfl)))
 have Y654 := Y623.other W639 (o_sn (Or.inl (o_m hw 68 rfl)) (Or.inl (o_m hw 47 rfl)))
 have Y655 := Y624.other W639 (o_sn (Or.inl (o_m hw 80 rfl)) (Or.inl (o_m hw 47 rfl)))
 have Y656 := Y625.other W639 (o_sn (Or.inl (o_m hw 95 rfl)) (Or.inl (o_m hw 47 rfl)))
 have Y657 := Y626.other W639 (o_sn (Or.inl (o_m hw 149 rfl)) (Or.inl (o_m hw 47 rfl)))
 have Y658 := Y627.other W639 (o_sn (Or.inl (o_m hw 177 rfl)) (Or.inl (o_m hw 47 rfl)))
 have Y659 := Y628.other W639 (o_sn (Or.inl (o_m hw 179 rfl)) (Or.inl (o_m hw 47 rfl)))
 have Y660 := Y629.wr W639
 have Y662 := Y631.other W639 (Or.inl (Ne.symm ne4))
 have Y667 := Y636.other W639 (Ne.symm ne168)
 have Y668 := Y637.other W639 (Ne.symm ne288)
 have Y669 := A608.other W639 (Ne.symm ne476)
 refine o_q T639 (o_f10 m 99 pp (16 : Int32) [(.ref pp)]) (fun _ k9 => XS.aloadN X639.here hx rfl (hb hby o_d3_98) rfl rfl k9) ?_
 refine o_iC (1 : Int32) X639 hx hby o_d3_99 rfl ?_
 refine o_pF X639 hx hZ e639 hby (ty := .int) hown (o_m hw 48 rfl) Y652 Y642 (Or.inl (o_m hw 49 rfl)) (o_m hw 8 rfl) (by decide) rfl rfl o_d3_100 fun T670 h670 X670 e670 W670 => ?_
 have Fw670 := Y652.same W670
 have N_670 := Fr.snoc X670 N_639 gp0
 have Y673 := Y642.wr W670
 have Y674 := Y643.wr W670
 have Y675 := Y644.other W670 (o_sn (Or.inr (o_m hw 26 rfl)) (Or.inl (o_m hw 49 rfl)))
 have Y678 := Y647.other W670 (o_sn (Or.inr (o_m hw 35 rfl)) (Or.inl (o_m hw 49 rfl)))
 have Y679 := Y648.other W670 (o_sn (Or.inl (o_m hw 39 rfl)) (Or.inl (o_m hw 49 rfl)))
 have Y680 := Y649.other W670 (o_sn (Or.inr (o_m hw 41 rfl)) (Or.inl (o_m hw 49 rfl)))
 have Y681 := Y650.other W670 (o_sn (Or.inl (o_m hw 44 rfl)) (Or.inl (o_m hw 49 rfl)))
 have Y682 := Fw639.other W670 (o_sn (Or.inl (o_m hw 47 rfl)) (Or.inl (o_m hw 49 rfl)))
 have Y684 := Y653.other W670 (o_sn (Or.inl (o_m hw 66 rfl)) (Or.inl (o_m hw 49 rfl)))
 have Y685 := Y654.other W670 (o_sn (Or.inl (o_m hw 68 rfl)) (Or.inl (o_m hw 49 rfl)))
 have Y686 := Y655.other W670 (o_sn (Or.inl (o_m hw 80 rfl)) (Or.inl (o_m hw 49 rfl)))
 have Y687 := Y656.other W670 (o_sn (Or.inl (o_m hw 95 rfl)) (Or.inl (o_m hw 49 rfl)))
 have Y688 := Y657.other W670 (o_sn (Or.inl (o_m hw 149 rfl)) (Or.inl (o_m hw 49 rfl)))
 have Y689 := Y658.other W670 (o_sn (Or.inl (o_m hw 177 rfl)) (Or.inl (o_m hw 49 rfl)))
 have Y690 := Y659.other W670 (o_sn (Or.inl (o_m hw 179 rfl)) (Or.inl (o_m hw 49 rfl)))
 have Y691 := Y660.wr W670
 have Y693 := Y662.other W670 (Or.inl (Ne.symm ne4))
 have Y698 := Y667.other W670 (Ne.symm ne168)
 have Y699 := Y668.other W670 (Ne.symm ne288)
 have Y700 := Y669.other W670 (Ne.symm ne476)
 have hx0 : f415 0 = (-9223372036854775808 : Int64) := by simp [d_f287, d_f322, d_f353, d_f384, d_f415]
 have hf0 : (f608 0).toInt = 16 := by simp [d_f475, d_f512, d_f544, d_f576, d_f608]
 refine o_retV X670 hx hlk hret (hb hby o_d3_103) ?_ (o_b rfl) (o_b rfl)
 rw [e670]
 subst d_f167
 exact ⟨b167, b3, b287, b475, f415, f608, rfl, N_670, ⟨Y673, Y691, Y674, Y680, Y681, Y682, Y687, Fw670, Y688, Y675, Y684, Y679, Y685, Y686, Y689, Y690, Y678, Y693, Y699, Y700, Y698, (Ne.symm ne292), wl, gp0, g_b287, g_b475, g_b167, g_b3⟩, hx0, hf0⟩
def o_at (v : Int32) : Int64 := (if v = (0 : Int32) then (-9223372036854775808 : Int64) else (if v = (16 : Int32) then (9223372036854775807 : Int64) else ((v - (8 : Int32))).toInt64))
theorem o_d22_0 : decode method_3_code 0 = .ok (.iload_n 0, 1) := by decide +kernel
theorem o_d22_1 : decode method_3_code 1 = .ok (.ifCond .ne 7, 3) := by decide +kernel
theorem o_d22_4 : decode method_3_code 4 = .ok (.ldc2_w 23, 3) := by decide +kernel
theorem o_d22_7 : decode method_3_code 7 = .ok (.lreturn, 1) := by decide +kernel
theorem o_d22_8 : decode method_3_code 8 = .ok (.iload_n 0, 1) := by decide +kernel
theorem o_d22_9 : decode method_3_code 9 = .ok (.bipush 16, 2) := by decide +kernel
theorem o_d22_11 : decode method_3_code 11 = .ok (.if_icmp .ne 7, 3) := by decide +kernel
theorem o_d22_14 : decode method_3_code 14 = .ok (.ldc2_w 25, 3) := by decide +kernel
theorem o_d22_17 : decode method_3_code 17 = .ok (.lreturn, 1) := by decide +kernel
theorem o_d22_18 : decode method_3_code 18 = .ok (.iload_n 0, 1) := by decide +kernel
theorem o_d22_19 : decode method_3_code 19 = .ok (.bipush 8, 2) := by decide +kernel
theorem o_d22_21 : decode method_3_code 21 = .ok (.isub, 1) := by decide +kernel
theorem o_d22_22 : decode method_3_code 22 = .ok (.i2l, 1) := by decide +kernel
theorem o_d22_23 : decode method_3_code 23 = .ok (.lreturn, 1) := by decide +kernel
theorem o_pn22 : plainFor (⟨o_n5, "at", "(I)J"⟩ : MethodName) = true := plainFor_of_name (by first | (simp [plainName, overriddenIn]; done) | decide +kernel)
set_option maxRecDepth 65536 in
set_option maxHeartbeats 40000000 in
theorem o_c_at (l : Launch) (Z : State) (a0 : Array Value) (hw : ∀ d ∈ tables_1, d.before a0 Z = true) (v : Int32) (h0 : Heap)  :
  o_C l (⟨o_n5, "at", "(I)J"⟩ : MethodName) method_3_code 1 (some .long) (o_R 0 0 0 0) Z h0 #[(.int v)] (o_P (some (.long (o_at v))) h0) := by
 refine o_body o_pn22 ?_
 intro p e s m below meth c s₁ hx hby hml hZ hown hnm hret hlk X0 e0
 refine o_cast (f' := (o_f26 m 0 v [])) (by first | (simp [entryFrame, mkF, argsToLocals, Value.category, maxLocals]; done) | rfl) ?_
 refine o_q s₁ (o_f26 m 1 v [(.int v)]) (fun _ k9 => XS.iloadN X0.here hx rfl (hb hby o_d22_0) rfl k9) ?_
 by_cases c0 : v = (0 : Int32)
 ·refine o_fN X0 hx hby o_d22_1 ((if0 _ _).trans (teq c0).2) ?_
  refine o_q s₁ (o_f26 m 7 v [(.long (-9223372036854775808 : Int64))]) (fun _ k9 => X0.ldc2Long hx hown (mvT hZ (o_m hw 50 rfl)) (g := (o_f26 m 4 v [])) rfl (hb hby o_d22_4) _ k9) ?_
  refine o_retJ X0 hx hlk hret (hb hby o_d22_7) ⟨?_, rfl, e0⟩ (by decide) (by decide)
  rw [o_at, if_pos c0]
  try rfl
 ·refine o_fY 8 X0 hx hby o_d22_1 ((if0 _ _).trans (feq c0).2) ?_
  refine o_q s₁ (o_f26 m 9 v [(.int v)]) (fun _ k9 => XS.iloadN X0.here hx rfl (hb hby o_d22_8) rfl k9) ?_
  refine o_q s₁ (o_f26 m 11 v [(.int (16 : Int32)), (.int v)]) (fun _ k9 => XS.bipush X0.here hx rfl (hb hby o_d22_9) k9) ?_
  by_cases c1 : v = (16 : Int32)
  ·refine o_cN X0 hx hby o_d22_11 (teq c1).2 ?_
   refine o_q s₁ (o_f26 m 17 v [(.long (9223372036854775807 : Int64))]) (fun _ k9 => X0.ldc2Long hx hown (mvT hZ (o_m hw 51 rfl)) (g := (o_f26 m 14 v [])) rfl (hb hby o_d22_14) _ k9) ?_
   refine o_retJ X0 hx hlk hret (hb hby o_d22_17) ⟨?_, rfl, e0⟩ (by decide) (by decide)
   rw [o_at, if_neg c0, if_pos c1]
   try rfl
  ·refine o_cY 18 X0 hx hby o_d22_11 (feq c1).2 ?_
   refine o_q s₁ (o_f26 m 19 v [(.int v)]) (fun _ k9 => XS.iloadN X0.here hx rfl (hb hby o_d22_18) rfl k9) ?_
   refine o_q s₁ (o_f26 m 21 v [(.int (8 : Int32)), (.int v)]) (fun _ k9 => XS.bipush X0.here hx rfl (hb hby o_d22_19) k9) ?_
   refine o_q s₁ (o_f26 m 22 v [(.int (v - (8 : Int32)))]) (fun _ k9 => XS.isub X0.here hx rfl (hb hby o_d22_21) rfl k9) ?_
   refine o_q s₁ (o_f26 m 23 v [(.long ((v - (8 : Int32))).toInt64)]) (fun _ k9 => XS.i2l X0.here hx rfl (hb hby o_d22_22) rfl k9) ?_
   refine o_retJ X0 hx hlk hret (hb hby o_d22_23) ⟨?_, rfl, e0⟩ (by decide) (by decide)
   rw [o_at, if_neg c0, if_neg c1]
   try rfl
def o_lo (st : Int64) (i : Int32) : Int32 := ((((st).toUInt64 >>> (((8 : Int32) * i) &&& 0x3f).toInt64.toUInt64).toInt64).toInt32 &&& (15 : Int32))
theorem o_d19_0 : decode method_4_code 0 = .ok (.lload_n 0, 1) := by decide +kernel
theorem o_d19_1 : decode method_4_code 1 = .ok (.bipush 8, 2) := by decide +kernel
theorem o_d19_3 : decode method_4_code 3 = .ok (.iload_n 2, 1) := by decide +kernel
theorem o_d19_4 : decode method_4_code 4 = .ok (.imul, 1) := by decide +kernel
theorem o_d19_5 : decode method_4_code 5 = .ok (.lushr, 1) := by decide +kernel
theorem o_d19_6 : decode method_4_code 6 = .ok (.l2i, 1) := by decide +kernel
theorem o_d19_7 : decode method_4_code 7 = .ok (.bipush 15, 2) := by decide +kernel
theorem o_d19_9 : decode method_4_code 9 = .ok (.iand, 1) := by decide +kernel
theorem o_d19_10 : decode method_4_code 10 = .ok (.ireturn, 1) := by decide +kernel
theorem o_pn19 : plainFor (⟨o_n5, "lowField", "(JI)I"⟩ : MethodName) = true := plainFor_of_name (by first | (simp [plainName, overriddenIn]; done) | decide +kernel)
set_option maxRecDepth 65536 in
set_option maxHeartbeats 40000000 in
theorem o_c_lowField (l : Launch) (Z : State) (a0 : Array Value) (hw : ∀ d ∈ tables_1, d.before a0 Z = true) (st : Int64) (i : Int32) (h0 : Heap)  :
  o_C l (⟨o_n5, "lowField", "(JI)I"⟩ : MethodName) method_4_code 3 (some .int) (o_R 0 0 0 0) Z h0 #[(.long st), (.int i)] (o_P (some (.int (o_lo st i))) h0) := by
 refine o_body o_pn19 ?_
 intro p e s m below meth c s₁ hx hby hml hZ hown hnm hret hlk X0 e0
 refine o_cast (f' := (o_f27 m 0 st i [])) (by first | (simp [entryFrame, mkF, argsToLocals, Value.category, maxLocals]; done) | rfl) ?_
 refine o_q s₁ (o_f27 m 1 st i [(.long st)]) (fun _ k9 => XS.lloadN X0.here hx rfl (hb hby o_d19_0) rfl k9) ?_
 refine o_q s₁ (o_f27 m 3 st i [(.int (8 : Int32)), (.long st)]) (fun _ k9 => XS.bipush X0.here hx rfl (hb hby o_d19_1) k9) ?_
 refine o_q s₁ (o_f27 m 4 st i [(.int i), (.int (8 : Int32)), (.long st)]) (fun _ k9 => XS.iloadN X0.here hx rfl (hb hby o_d19_3) rfl k9) ?_
 refine o_q s₁ (o_f27 m 5 st i [(.int ((8 : Int32) * i)), (.long st)]) (fun _ k9 => XS.imul X0.here hx rfl (hb hby o_d19_4) rfl k9) ?_
 refine o_q s₁ (o_f27 m 6 st i [(.long ((st).toUInt64 >>> (((8 : Int32) * i) &&& 0x3f).toInt64.toUInt64).toInt64)]) (fun _ k9 => XS.lushr X0.here hx rfl (hb hby o_d19_5) rfl k9) ?_
 refine o_q s₁ (o_f27 m 7 st i [(.int (((st).toUInt64 >>> (((8 : Int32) * i) &&& 0x3f).toInt64.toUInt64).toInt64).toInt32)]) (fun _ k9 => XS.l2i X0.here hx rfl (hb hby o_d19_6) rfl k9) ?_
 refine o_q s₁ (o_f27 m 9 st i [(.int (15 : Int32)), (.int (((st).toUInt64 >>> (((8 : Int32) * i) &&& 0x3f).toInt64.toUInt64).toInt64).toInt32)]) (fun _ k9 => XS.bipush X0.here hx rfl (hb hby o_d19_7) k9) ?_
 refine o_q s₁ (o_f27 m 10 st i [(.int ((((st).toUInt64 >>> (((8 : Int32) * i) &&& 0x3f).toInt64.toUInt64).toInt64).toInt32 &&& (15 : Int32)))]) (fun _ k9 => XS.iand X0.here hx rfl (hb hby o_d19_9) rfl k9) ?_
 refine o_retI X0 hx hlk hret (hb hby o_d19_10) ⟨?_, rfl, e0⟩ (by decide) (by decide)
 rw [o_lo]
 try rfl
def o_hi (st : Int64) (i : Int32) : Int32 := ((((st).toUInt64 >>> ((((8 : Int32) * i) + (4 : Int32)) &&& 0x3f).toInt64.toUInt64).toInt64).toInt32 &&& (15 : Int32))
theorem o_d20_0 : decode method_5_code 0 = .ok (.lload_n 0, 1) := by decide +kernel
theorem o_d20_1 : decode method_5_code 1 = .ok (.bipush 8, 2) := by decide +kernel
theorem o_d20_3 : decode method_5_code 3 = .ok (.iload_n 2, 1) := by decide +kernel
theorem o_d20_4 : decode method_5_code 4 = .ok (.imul, 1) := by decide +kernel
theorem o_d20_5 : decode method_5_code 5 = .ok (.iconst 4, 1) := by decide +kernel
theorem o_d20_6 : decode method_5_code 6 = .ok (.iadd, 1) := by decide +kernel
theorem o_d20_7 : decode method_5_code 7 = .ok (.lushr, 1) := by decide +kernel
theorem o_d20_8 : decode method_5_code 8 = .ok (.l2i, 1) := by decide +kernel
theorem o_d20_9 : decode method_5_code 9 = .ok (.bipush 15, 2) := by decide +kernel
theorem o_d20_11 : decode method_5_code 11 = .ok (.iand, 1) := by decide +kernel
theorem o_d20_12 : decode method_5_code 12 = .ok (.ireturn, 1) := by decide +kernel
theorem o_pn20 : plainFor (⟨o_n5, "highField", "(JI)I"⟩ : MethodName) = true := plainFor_of_name (by first | (simp [plainName, overriddenIn]; done) | decide +kernel)
set_option maxRecDepth 65536 in
set_option maxHeartbeats 40000000 in
theorem o_c_highField (l : Launch) (Z : State) (a0 : Array Value) (hw : ∀ d ∈ tables_1, d.before a0 Z = true) (st : Int64) (i : Int32) (h0 : Heap)  :
  o_C l (⟨o_n5, "highField", "(JI)I"⟩ : MethodName) method_5_code 3 (some .int) (o_R 0 0 0 0) Z h0 #[(.long st), (.int i)] (o_P (some (.int (o_hi st i))) h0) := by
 refine o_body o_pn20 ?_
 intro p e s m below meth c s₁ hx hby hml hZ hown hnm hret hlk X0 e0
 refine o_cast (f' := (o_f27 m 0 st i [])) (by first | (simp [entryFrame, mkF, argsToLocals, Value.category, maxLocals]; done) | rfl) ?_
 refine o_q s₁ (o_f27 m 1 st i [(.long st)]) (fun _ k9 => XS.lloadN X0.here hx rfl (hb hby o_d20_0) rfl k9) ?_
 refine o_q s₁ (o_f27 m 3 st i [(.int (8 : Int32)), (.long st)]) (fun _ k9 => XS.bipush X0.here hx rfl (hb hby o_d20_1) k9) ?_
 refine o_q s₁ (o_f27 m 4 st i [(.int i), (.int (8 : Int32)), (.long st)]) (fun _ k9 => XS.iloadN X0.here hx rfl (hb hby o_d20_3) rfl k9) ?_
 refine o_q s₁ (o_f27 m 5 st i [(.int ((8 : Int32) * i)), (.long st)]) (fun _ k9 => XS.imul X0.here hx rfl (hb hby o_d20_4) rfl k9) ?_
 refine o_iC (4 : Int32) X0 hx hby o_d20_5 rfl ?_
 refine o_q s₁ (o_f27 m 7 st i [(.int (((8 : Int32) * i) + (4 : Int32))), (.long st)]) (fun _ k9 => XS.iadd X0.here hx rfl (hb hby o_d20_6) rfl k9) ?_
 refine o_q s₁ (o_f27 m 8 st i [(.long ((st).toUInt64 >>> ((((8 : Int32) * i) + (4 : Int32)) &&& 0x3f).toInt64.toUInt64).toInt64)]) (fun _ k9 => XS.lushr X0.here hx rfl (hb hby o_d20_7) rfl k9) ?_
 refine o_q s₁ (o_f27 m 9 st i [(.int (((st).toUInt64 >>> ((((8 : Int32) * i) + (4 : Int32)) &&& 0x3f).toInt64.toUInt64).toInt64).toInt32)]) (fun _ k9 => XS.l2i X0.here hx rfl (hb hby o_d20_8) rfl k9) ?_
 refine o_q s₁ (o_f27 m 11 st i [(.int (15 : Int32)), (.int (((st).toUInt64 >>> ((((8 : Int32) * i) + (4 : Int32)) &&& 0x3f).toInt64.toUInt64).toInt64).toInt32)]) (fun _ k9 => XS.bipush X0.here hx rfl (hb hby o_d20_9) k9) ?_
 refine o_q s₁ (o_f27 m 12 st i [(.int ((((st).toUInt64 >>> ((((8 : Int32) * i) + (4 : Int32)) &&& 0x3f).toInt64.toUInt64).toInt64).toInt32 &&& (15 : Int32)))]) (fun _ k9 => XS.iand X0.here hx rfl (hb hby o_d20_11) rfl k9) ?_
 refine o_retI X0 hx hlk hret (hb hby o_d20_12) ⟨?_, rfl, e0⟩ (by decide) (by decide)
 rw [o_hi]
 try rfl
def o_sa (st : Int64) (i : Int32) : Int64 := (if (o_hi st i) < (o_lo st i) then (o_at (o_hi st i)) else (o_at (o_lo st i)))
theorem o_d18_0 : decode method_6_code 0 = .ok (.lload_n 0, 1) := by decide +kernel
theorem o_d18_1 : decode method_6_code 1 = .ok (.iload_n 2, 1) := by decide +kernel
theorem o_d18_2 : decode method_6_code 2 = .ok (.invokestatic 53, 3) := by decide +kernel
theorem o_pd9 : parseMethodDescriptor "(JI)I" = some ⟨[.long, .int], some .int⟩ := by decide +kernel
theorem o_d18_5 : decode method_6_code 5 = .ok (.lload_n 0, 1) := by decide +kernel
theorem o_d18_6 : decode method_6_code 6 = .ok (.iload_n 2, 1) := by decide +kernel
theorem o_d18_7 : decode method_6_code 7 = .ok (.invokestatic 57, 3) := by decide +kernel
theorem o_d18_10 : decode method_6_code 10 = .ok (.invokestatic 60, 3) := by decide +kernel
theorem o_d18_13 : decode method_6_code 13 = .ok (.invokestatic 63, 3) := by decide +kernel
theorem o_pd2 : parseMethodDescriptor "(I)J" = some ⟨[.int], some .long⟩ := by decide +kernel
theorem o_d18_16 : decode method_6_code 16 = .ok (.lreturn, 1) := by decide +kernel
theorem o_pn18 : plainFor (⟨o_n5, "start", "(JI)J"⟩ : MethodName) = true := plainFor_of_name (by first | (simp [plainName, overriddenIn]; done) | decide +kernel)
set_option maxRecDepth 65536 in
set_option maxHeartbeats 40000000 in
theorem o_c_start (l : Launch) (Z : State) (a0 : Array Value) (hw : ∀ d ∈ tables_1, d.before a0 Z = true) (st : Int64) (i : Int32) (h0 : Heap)  :
  o_C l (⟨o_n5, "start", "(JI)J"⟩ : MethodName) method_6_code 3 (some .long) (o_R 1 0 0 15) Z h0 #[(.long st), (.int i)] (o_P (some (.long (o_sa st i))) h0) := by
 refine o_body o_pn18 ?_
 intro p e s m below meth c s₁ hx hby hml hZ hown hnm hret hlk X0 e0
 refine o_cast (f' := (o_f27 m 0 st i [])) (by first | (simp [entryFrame, mkF, argsToLocals, Value.category, maxLocals]; done) | rfl) ?_
 refine o_q s₁ (o_f27 m 1 st i [(.long st)]) (fun _ k9 => XS.lloadN X0.here hx rfl (hb hby o_d18_0) rfl k9) ?_
 refine o_q s₁ (o_f27 m 2 st i [(.int i), (.long st)]) (fun _ k9 => XS.iloadN X0.here hx rfl (hb hby o_d18_1) rfl k9) ?_
 obtain ⟨v1, T1, L1, hQ1, X1, st1⟩ := o_callS X0 hx hZ e0 hown (o_m hw 127 rfl) (o_m hw 128 rfl) (by decide) (o_m hw 129 rfl) (o_m hw 122 rfl) (o_c_lowField l Z a0 hw st i h0) (g := (o_f27 m 2 st i [(.int i), (.long st)])) rfl (by rw [hml]; rfl) rfl (argsL := [(.long st), (.int i)]) (rest := []) rfl (lenOf o_pd9 rfl) rfl (hb hby o_d18_2) (o_b rfl) (o_b rfl) (o_b rfl) (o_b rfl)
 obtain ⟨rfl, rfl, e1⟩ := hQ1
 rw [List.append_nil] at X1
 refine o_q T1 (o_f27 m 5 st i [(.int (o_lo st i))]) st1 ?_
 refine o_q T1 (o_f27 m 6 st i [(.long st), (.int (o_lo st i))]) (fun _ k9 => XS.lloadN X1.here hx rfl (hb hby o_d18_5) rfl k9) ?_
 refine o_q T1 (o_f27 m 7 st i [(.int i), (.long st), (.int (o_lo st i))]) (fun _ k9 => XS.iloadN X1.here hx rfl (hb hby o_d18_6) rfl k9) ?_
 obtain ⟨v2, T2, L2, hQ2, X2, st2⟩ := o_callS X1 hx hZ e1 hown (o_m hw 130 rfl) (o_m hw 131 rfl) (by decide) (o_m hw 132 rfl) (o_m hw 122 rfl) (o_c_highField l Z a0 hw st i h0) (g := (o_f27 m 7 st i [(.int i), (.long st), (.int (o_lo st i))])) rfl (by rw [hml]; rfl) rfl (argsL := [(.long st), (.int i)]) (rest := [(.int (o_lo st i))]) rfl (lenOf o_pd9 rfl) rfl (hb hby o_d18_7) (o_b rfl) (o_b rfl) (o_b rfl) (o_b rfl)
 obtain ⟨rfl, rfl, e2⟩ := hQ2
 rw [List.append_nil] at X2
 refine o_q T2 (o_f27 m 10 st i [(.int (o_hi st i)), (.int (o_lo st i))]) st2 ?_
 obtain ⟨v3, T3, L3, hQ3, X3, st3⟩ := o_callS X2 hx hZ e2 hown (o_m hw 133 rfl) (o_m hw 134 rfl) (by decide) (o_m hw 135 rfl) (o_m hw 2 rfl) (o_k21_1 l Z a0 hw (o_lo st i) (o_hi st i) h0 ) (g := (o_f27 m 10 st i [(.int (o_hi st i)), (.int (o_lo st i))])) rfl (by rw [hml]; rfl) rfl (argsL := [(.int (o_lo st i)), (.int (o_hi st i))]) (rest := []) rfl (lenOf o_pd4 rfl) rfl (hb hby o_d18_10) (o_b rfl) (o_b rfl) (o_b rfl) (o_b rfl)
 obtain ⟨rfl, rfl, e3⟩ := hQ3
 rw [List.append_nil] at X3
 by_cases c0 : (o_hi st i) < (o_lo st i)
 ·rw [if_pos c0] at st3
  refine o_q T3 (o_f27 m 13 st i [(.int (o_hi st i))]) st3 ?_
  obtain ⟨v4, T4, L4, hQ4, X4, st4⟩ := o_callS X3 hx hZ e3 hown (o_m hw 136 rfl) (o_m hw 137 rfl) (by decide) (o_m hw 138 rfl) (o_m hw 122 rfl) (o_c_at l Z a0 hw (o_hi st i) h0) (g := (o_f27 m 13 st i [(.int (o_hi st i))])) rfl (by rw [hml]; rfl) rfl (argsL := [(.int (o_hi st i))]) (rest := []) rfl (lenOf o_pd2 rfl) rfl (hb hby o_d18_13) (o_b rfl) (o_b rfl) (o_b rfl) (o_b rfl)
  obtain ⟨rfl, rfl, e4⟩ := hQ4
  rw [List.append_nil] at X4
  refine o_q T4 (o_f27 m 16 st i [(.long (o_at (o_hi st i)))]) st4 ?_
  refine o_retJ X4 hx hlk hret (hb hby o_d18_16) ⟨?_, rfl, e4⟩ (by decide) (by decide)
  rw [o_sa, if_pos c0]
  try rfl
 ·rw [if_neg c0] at st3
  refine o_q T3 (o_f27 m 13 st i [(.int (o_lo st i))]) st3 ?_
  obtain ⟨v5, T5, L5, hQ5, X5, st5⟩ := o_callS X3 hx hZ e3 hown (o_m hw 136 rfl) (o_m hw 137 rfl) (by decide) (o_m hw 138 rfl) (o_m hw 122 rfl) (o_c_at l Z a0 hw (o_lo st i) h0) (g := (o_f27 m 13 st i [(.int (o_lo st i))])) rfl (by rw [hml]; rfl) rfl (argsL := [(.int (o_lo st i))]) (rest := []) rfl (lenOf o_pd2 rfl) rfl (hb hby o_d18_13) (o_b rfl) (o_b rfl) (o_b rfl) (o_b rfl)
  obtain ⟨rfl, rfl, e5⟩ := hQ5
  rw [List.append_nil] at X5
  refine o_q T5 (o_f27 m 16 st i [(.long (o_at (o_lo st i)))]) st5 ?_
  refine o_retJ X5 hx hlk hret (hb hby o_d18_16) ⟨?_, rfl, e5⟩ (by decide) (by decide)
  rw [o_sa, if_neg c0]
  try rfl
def o_en (st : Int64) (i : Int32) : Int64 := (if (o_lo st i) < (o_hi st i) then (o_at ((o_hi st i) + (1 : Int32))) else (o_at ((o_lo st i) + (1 : Int32))))
theorem o_d23_0 : decode method_7_code 0 = .ok (.lload_n 0, 1) := by decide +kernel
theorem o_d23_1 : decode method_7_code 1 = .ok (.iload_n 2, 1) := by decide +kernel
theorem o_d23_2 : decode method_7_code 2 = .ok (.invokestatic 53, 3) := by decide +kernel
theorem o_d23_5 : decode method_7_code 5 = .ok (.lload_n 0, 1) := by decide +kernel
theorem o_d23_6 : decode method_7_code 6 = .ok (.iload_n 2, 1) := by decide +kernel
theorem o_d23_7 : decode method_7_code 7 = .ok (.invokestatic 57, 3) := by decide +kernel
theorem o_d23_10 : decode method_7_code 10 = .ok (.invokestatic 67, 3) := by decide +kernel
theorem o_d23_13 : decode method_7_code 13 = .ok (.iconst 1, 1) := by decide +kernel
theorem o_d23_14 : decode method_7_code 14 = .ok (.iadd, 1) := by decide +kernel
theorem o_d23_15 : decode method_7_code 15 = .ok (.invokestatic 63, 3) := by decide +kernel
theorem o_d23_18 : decode method_7_code 18 = .ok (.lreturn, 1) := by decide +kernel
theorem o_pn23 : plainFor (⟨o_n5, "end", "(JI)J"⟩ : MethodName) = true := plainFor_of_name (by first | (simp [plainName, overriddenIn]; done) | decide +kernel)
set_option maxRecDepth 65536 in
set_option maxHeartbeats 40000000 in
theorem o_c_end (l : Launch) (Z : State) (a0 : Array Value) (hw : ∀ d ∈ tables_1, d.before a0 Z = true) (st : Int64) (i : Int32) (h0 : Heap)  :
  o_C l (⟨o_n5, "end", "(JI)J"⟩ : MethodName) method_7_code 3 (some .long) (o_R 1 0 0 15) Z h0 #[(.long st), (.int i)] (o_P (some (.long (o_en st i))) h0) := by
 refine o_body o_pn23 ?_
 intro p e s m below meth c s₁ hx hby hml hZ hown hnm hret hlk X0 e0
 refine o_cast (f' := (o_f27 m 0 st i [])) (by first | (simp [entryFrame, mkF, argsToLocals, Value.category, maxLocals]; done) | rfl) ?_
 refine o_q s₁ (o_f27 m 1 st i [(.long st)]) (fun _ k9 => XS.lloadN X0.here hx rfl (hb hby o_d23_0) rfl k9) ?_
 refine o_q s₁ (o_f27 m 2 st i [(.int i), (.long st)]) (fun _ k9 => XS.iloadN X0.here hx rfl (hb hby o_d23_1) rfl k9) ?_
 obtain ⟨v1, T1, L1, hQ1, X1, st1⟩ := o_callS X0 hx hZ e0 hown (o_m hw 127 rfl) (o_m hw 128 rfl) (by decide) (o_m hw 129 rfl) (o_m hw 122 rfl) (o_c_lowField l Z a0 hw st i h0) (g := (o_f27 m 2 st i [(.int i), (.long st)])) rfl (by rw [hml]; rfl) rfl (argsL := [(.long st), (.int i)]) (rest := []) rfl (lenOf o_pd9 rfl) rfl (hb hby o_d23_2) (o_b rfl) (o_b rfl) (o_b rfl) (o_b rfl)
 obtain ⟨rfl, rfl, e1⟩ := hQ1
 rw [List.append_nil] at X1
 refine o_q T1 (o_f27 m 5 st i [(.int (o_lo st i))]) st1 ?_
 refine o_q T1 (o_f27 m 6 st i [(.long st), (.int (o_lo st i))]) (fun _ k9 => XS.lloadN X1.here hx rfl (hb hby o_d23_5) rfl k9) ?_
 refine o_q T1 (o_f27 m 7 st i [(.int i), (.long st), (.int (o_lo st i))]) (fun _ k9 => XS.iloadN X1.here hx rfl (hb hby o_d23_6) rfl k9) ?_
 obtain ⟨v2, T2, L2, hQ2, X2, st2⟩ := o_callS X1 hx hZ e1 hown (o_m hw 130 rfl) (o_m hw 131 rfl) (by decide) (o_m hw 132 rfl) (o_m hw 122 rfl) (o_c_highField l Z a0 hw st i h0) (g := (o_f27 m 7 st i [(.int i), (.long st), (.int (o_lo st i))])) rfl (by rw [hml]; rfl) rfl (argsL := [(.long st), (.int i)]) (rest := [(.int (o_lo st i))]) rfl (lenOf o_pd9 rfl) rfl (hb hby o_d23_7) (o_b rfl) (o_b rfl) (o_b rfl) (o_b rfl)
 obtain ⟨rfl, rfl, e2⟩ := hQ2
 rw [List.append_nil] at X2
 refine o_q T2 (o_f27 m 10 st i [(.int (o_hi st i)), (.int (o_lo st i))]) st2 ?_
 obtain ⟨v3, T3, L3, hQ3, X3, st3⟩ := o_callS X2 hx hZ e2 hown (o_m hw 142 rfl) (o_m hw 143 rfl) (by decide) (o_m hw 144 rfl) (o_m hw 2 rfl) (o_k24_2 l Z a0 hw (o_lo st i) (o_hi st i) h0 ) (g := (o_f27 m 10 st i [(.int (o_hi st i)), (.int (o_lo st i))])) rfl (by rw [hml]; rfl) rfl (argsL := [(.int (o_lo st i)), (.int (o_hi st i))]) (rest := []) rfl (lenOf o_pd4 rfl) rfl (hb hby o_d23_10) (o_b rfl) (o_b rfl) (o_b rfl) (o_b rfl)
 obtain ⟨rfl, rfl, e3⟩ := hQ3
 rw [List.append_nil] at X3
 by_cases c0 : (o_lo st i) < (o_hi st i)
 ·rw [if_pos c0] at st3
  refine o_q T3 (o_f27 m 13 st i [(.int (o_hi st i))]) st3 ?_
  refine o_iC (1 : Int32) X3 hx hby o_d23_13 rfl ?_
  refine o_q T3 (o_f27 m 15 st i [(.int ((o_hi st i) + (1 : Int32)))]) (fun _ k9 => XS.iadd X3.here hx rfl (hb hby o_d23_14) rfl k9) ?_
  obtain ⟨v4, T4, L4, hQ4, X4, st4⟩ := o_callS X3 hx hZ e3 hown (o_m hw 136 rfl) (o_m hw 137 rfl) (by decide) (o_m hw 138 rfl) (o_m hw 122 rfl) (o_c_at l Z a0 hw ((o_hi st i) + (1 : Int32)) h0) (g := (o_f27 m 15 st i [(.int ((o_hi st i) + (1 : Int32)))])) rfl (by rw [hml]; rfl) rfl (argsL := [(.int ((o_hi st i) + (1 : Int32)))]) (rest := []) rfl (lenOf o_pd2 rfl) rfl (hb hby o_d23_15) (o_b rfl) (o_b rfl) (o_b rfl) (o_b rfl)
  obtain ⟨rfl, rfl, e4⟩ := hQ4
  rw [List.append_nil] at X4
  refine o_q T4 (o_f27 m 18 st i [(.long (o_at ((o_hi st i) + (1 : Int32))))]) st4 ?_
  refine o_retJ X4 hx hlk hret (hb hby o_d23_18) ⟨?_, rfl, e4⟩ (by decide) (by decide)
  rw [o_en, if_pos c0]
  try rfl
 ·rw [if_neg c0] at st3
  refine o_q T3 (o_f27 m 13 st i [(.int (o_lo st i))]) st3 ?_
  refine o_iC (1 : Int32) X3 hx hby o_d23_13 rfl ?_
  refine o_q T3 (o_f27 m 15 st i [(.int ((o_lo st i) + (1 : Int32)))]) (fun _ k9 => XS.iadd X3.here hx rfl (hb hby o_d23_14) rfl k9) ?_
  obtain ⟨v5, T5, L5, hQ5, X5, st5⟩ := o_callS X3 hx hZ e3 hown (o_m hw 136 rfl) (o_m hw 137 rfl) (by decide) (o_m hw 138 rfl) (o_m hw 122 rfl) (o_c_at l Z a0 hw ((o_lo st i) + (1 : Int32)) h0) (g := (o_f27 m 15 st i [(.int ((o_lo st i) + (1 : Int32)))])) rfl (by rw [hml]; rfl) rfl (argsL := [(.int ((o_lo st i) + (1 : Int32)))]) (rest := []) rfl (lenOf o_pd2 rfl) rfl (hb hby o_d23_15) (o_b rfl) (o_b rfl) (o_b rfl) (o_b rfl)
  obtain ⟨rfl, rfl, e5⟩ := hQ5
  rw [List.append_nil] at X5
  refine o_q T5 (o_f27 m 18 st i [(.long (o_at ((o_lo st i) + (1 : Int32))))]) st5 ?_
  refine o_retJ X5 hx hlk hret (hb hby o_d23_18) ⟨?_, rfl, e5⟩ (by decide) (by decide)
  rw [o_en, if_neg c0]
  try rfl
def o_rl (k : Int32) (i : Int32) : Int32 := (if ((k.toUInt32 >>> (((4 : Int32) + i) &&& 31).toUInt32).toInt32 &&& (1 : Int32)) = (0 : Int32) then (0 : Int32) else (1 : Int32))
theorem o_d25_0 : decode method_8_code 0 = .ok (.iload_n 0, 1) := by decide +kernel
theorem o_d25_1 : decode method_8_code 1 = .ok (.iconst 4, 1) := by decide +kernel
theorem o_d25_2 : decode method_8_code 2 = .ok (.iload_n 1, 1) := by decide +kernel
theorem o_d25_3 : decode method_8_code 3 = .ok (.iadd, 1) := by decide +kernel
theorem o_d25_4 : decode method_8_code 4 = .ok (.iushr, 1) := by decide +kernel
theorem o_d25_5 : decode method_8_code 5 = .ok (.iconst 1, 1) := by decide +kernel
theorem o_d25_6 : decode method_8_code 6 = .ok (.iand, 1) := by decide +kernel
theorem o_d25_7 : decode method_8_code 7 = .ok (.ifCond .eq 7, 3) := by decide +kernel
theorem o_d25_14 : decode method_8_code 14 = .ok (.iconst 0, 1) := by decide +kernel
theorem o_d25_15 : decode method_8_code 15 = .ok (.ireturn, 1) := by decide +kernel
theorem o_d25_10 : decode method_8_code 10 = .ok (.iconst 1, 1) := by decide +kernel
theorem o_d25_11 : decode method_8_code 11 = .ok (.goto 4, 3) := by decide +kernel
theorem o_pn25 : plainFor (⟨o_n5, "released", "(II)Z"⟩ : MethodName) = true := plainFor_of_name (by first | (simp [plainName, overriddenIn]; done) | decide +kernel)
set_option maxRecDepth 65536 in
set_option maxHeartbeats 40000000 in
theorem o_c_released (l : Launch) (Z : State) (a0 : Array Value) (hw : ∀ d ∈ tables_1, d.before a0 Z = true) (k : Int32) (i : Int32) (h0 : Heap)  :
  o_C l (⟨o_n5, "released", "(II)Z"⟩ : MethodName) method_8_code 2 (some .boolean) (o_R 0 0 0 0) Z h0 #[(.int k), (.int i)] (o_P (some (.int (o_rl k i))) h0) := by
 refine o_body o_pn25 ?_
 intro p e s m below meth c s₁ hx hby hml hZ hown hnm hret hlk X0 e0
 refine o_cast (f' := (o_f1 m 0 k i [])) (by first | (simp [entryFrame, mkF, argsToLocals, Value.category, maxLocals]; done) | rfl) ?_
 refine o_q s₁ (o_f1 m 1 k i [(.int k)]) (fun _ k9 => XS.iloadN X0.here hx rfl (hb hby o_d25_0) rfl k9) ?_
 refine o_iC (4 : Int32) X0 hx hby o_d25_1 rfl ?_
 refine o_q s₁ (o_f1 m 3 k i [(.int i), (.int (4 : Int32)), (.int k)]) (fun _ k9 => XS.iloadN X0.here hx rfl (hb hby o_d25_2) rfl k9) ?_
 refine o_q s₁ (o_f1 m 4 k i [(.int ((4 : Int32) + i)), (.int k)]) (fun _ k9 => XS.iadd X0.here hx rfl (hb hby o_d25_3) rfl k9) ?_
 refine o_q s₁ (o_f1 m 5 k i [(.int (k.toUInt32 >>> (((4 : Int32) + i) &&& 31).toUInt32).toInt32)]) (fun _ k9 => XS.iushr X0.here hx rfl (hb hby o_d25_4) rfl k9) ?_
 refine o_iC (1 : Int32) X0 hx hby o_d25_5 rfl ?_
 refine o_q s₁ (o_f1 m 7 k i [(.int ((k.toUInt32 >>> (((4 : Int32) + i) &&& 31).toUInt32).toInt32 &&& (1 : Int32)))]) (fun _ k9 => XS.iand X0.here hx rfl (hb hby o_d25_6) rfl k9) ?_
 by_cases c0 : ((k.toUInt32 >>> (((4 : Int32) + i) &&& 31).toUInt32).toInt32 &&& (1 : Int32)) = (0 : Int32)
 ·refine o_fY 14 X0 hx hby o_d25_7 ((if0 _ _).trans (teq c0).1) ?_
  refine o_iC (0 : Int32) X0 hx hby o_d25_14 rfl ?_
  refine o_retN X0 hx hlk (t := .boolean) hret (by simp) (hb hby o_d25_15) ⟨?_, rfl, e0⟩ (by decide) (by decide)
  rw [o_rl, if_pos c0]
  try rfl
 ·refine o_fN X0 hx hby o_d25_7 ((if0 _ _).trans (feq c0).1) ?_
  refine o_iC (1 : Int32) X0 hx hby o_d25_10 rfl ?_
  refine o_go 15 X0 hx hby o_d25_11 ?_
  refine o_retN X0 hx hlk (t := .boolean) hret (by simp) (hb hby o_d25_15) ⟨?_, rfl, e0⟩ (by decide) (by decide)
  rw [o_rl, if_neg c0]
  try rfl
def o_rb (st : Int64) (k : Int32) (i : Int32) (sn : Int32) (frm : Int64) : Int32 := (if sn < (i + (2 : Int32)) then (if (o_rl k i) = (0 : Int32) then (0 : Int32) else (if (o_sa st i) < frm then (1 : Int32) else (0 : Int32))) else (0 : Int32))
theorem o_d29_0 : decode method_10_code 0 = .ok (.iload_n 3, 1) := by decide +kernel
theorem o_d29_1 : decode method_10_code 1 = .ok (.iconst 2, 1) := by decide +kernel
theorem o_d29_2 : decode method_10_code 2 = .ok (.iadd, 1) := by decide +kernel
theorem o_d29_3 : decode method_10_code 3 = .ok (.iload 4, 2) := by decide +kernel
theorem o_d29_5 : decode method_10_code 5 = .ok (.if_icmp .le 26, 3) := by decide +kernel
theorem o_d29_8 : decode method_10_code 8 = .ok (.iload_n 2, 1) := by decide +kernel
theorem o_d29_9 : decode method_10_code 9 = .ok (.iload_n 3, 1) := by decide +kernel
theorem o_d29_10 : decode method_10_code 10 = .ok (.invokestatic 37, 3) := by decide +kernel
theorem o_pd6 : parseMethodDescriptor "(II)Z" = some ⟨[.int, .int], some .boolean⟩ := by decide +kernel
theorem o_d29_13 : decode method_10_code 13 = .ok (.ifCond .eq 18, 3) := by decide +kernel
theorem o_d29_31 : decode method_10_code 31 = .ok (.iconst 0, 1) := by decide +kernel
theorem o_d29_32 : decode method_10_code 32 = .ok (.ireturn, 1) := by decide +kernel
theorem o_d29_16 : decode method_10_code 16 = .ok (.lload_n 0, 1) := by decide +kernel
theorem o_d29_17 : decode method_10_code 17 = .ok (.iload_n 3, 1) := by decide +kernel
theorem o_d29_18 : decode method_10_code 18 = .ok (.invokestatic 69, 3) := by decide +kernel
theorem o_pd10 : parseMethodDescriptor "(JI)J" = some ⟨[.long, .int], some .long⟩ := by decide +kernel
theorem o_d29_21 : decode method_10_code 21 = .ok (.lload 5, 2) := by decide +kernel
theorem o_d29_23 : decode method_10_code 23 = .ok (.lcmp, 1) := by decide +kernel
theorem o_d29_24 : decode method_10_code 24 = .ok (.ifCond .ge 7, 3) := by decide +kernel
theorem o_d29_27 : decode method_10_code 27 = .ok (.iconst 1, 1) := by decide +kernel
theorem o_d29_28 : decode method_10_code 28 = .ok (.goto 4, 3) := by decide +kernel
theorem o_pn29 : plainFor (⟨o_n5, "relBefore", "(JIIIJ)Z"⟩ : MethodName) = true := plainFor_of_name (by first | (simp [plainName, overriddenIn]; done) | decide +kernel)
set_option maxRecDepth 65536 in
set_option maxHeartbeats 40000000 in
theorem o_c_relBefore (l : Launch) (Z : State) (a0 : Array Value) (hw : ∀ d ∈ tables_1, d.before a0 Z = true) (st : Int64) (k : Int32) (i : Int32) (sn : Int32) (frm : Int64) (h0 : Heap)  :
  o_C l (⟨o_n5, "relBefore", "(JIIIJ)Z"⟩ : MethodName) method_10_code 7 (some .boolean) (o_R 2 0 0 29) Z h0 #[(.long st), (.int k), (.int i), (.int sn), (.long frm)] (o_P (some (.int (o_rb st k i sn frm))) h0) := by
 refine o_body o_pn29 ?_
 intro p e s m below meth c s₁ hx hby hml hZ hown hnm hret hlk X0 e0
 refine o_cast (f' := (o_f28 m 0 st k i sn frm [])) (by first | (simp [entryFrame, mkF, argsToLocals, Value.category, maxLocals]; done) | rfl) ?_
 refine o_q s₁ (o_f28 m 1 st k i sn frm [(.int i)]) (fun _ k9 => XS.iloadN X0.here hx rfl (hb hby o_d29_0) rfl k9) ?_
 refine o_iC (2 : Int32) X0 hx hby o_d29_1 rfl ?_
 refine o_q s₁ (o_f28 m 3 st k i sn frm [(.int (i + (2 : Int32)))]) (fun _ k9 => XS.iadd X0.here hx rfl (hb hby o_d29_2) rfl k9) ?_
 refine o_q s₁ (o_f28 m 5 st k i sn frm [(.int sn), (.int (i + (2 : Int32)))]) (fun _ k9 => XS.iload X0.here hx rfl (hb hby o_d29_3) rfl k9) ?_
 by_cases c0 : sn < (i + (2 : Int32))
 ·refine o_cN X0 hx hby o_d29_5 (tlt c0).2.2.2 ?_
  refine o_q s₁ (o_f28 m 9 st k i sn frm [(.int k)]) (fun _ k9 => XS.iloadN X0.here hx rfl (hb hby o_d29_8) rfl k9) ?_
  refine o_q s₁ (o_f28 m 10 st k i sn frm [(.int i), (.int k)]) (fun _ k9 => XS.iloadN X0.here hx rfl (hb hby o_d29_9) rfl k9) ?_
  obtain ⟨v1, T1, L1, hQ1, X1, st1⟩ := o_callS X0 hx hZ e0 hown (o_m hw 145 rfl) (o_m hw 146 rfl) (by decide) (o_m hw 147 rfl) (o_m hw 122 rfl) (o_c_released l Z a0 hw k i h0) (g := (o_f28 m 10 st k i sn frm [(.int i), (.int k)])) rfl (by rw [hml]; rfl) rfl (argsL := [(.int k), (.int i)]) (rest := []) rfl (lenOf o_pd6 rfl) rfl (hb hby o_d29_10) (o_b rfl) (o_b rfl) (o_b rfl) (o_b rfl)
  obtain ⟨rfl, rfl, e1⟩ := hQ1
  rw [List.append_nil] at X1
  refine o_q T1 (o_f28 m 13 st k i sn frm [(.int (o_rl k i))]) st1 ?_
  by_cases c1 : (o_rl k i) = (0 : Int32)
  ·refine o_fY 31 X1 hx hby o_d29_13 ((if0 _ _).trans (teq c1).1) ?_
   refine o_iC (0 : Int32) X1 hx hby o_d29_31 rfl ?_
   refine o_retN X1 hx hlk (t := .boolean) hret (by simp) (hb hby o_d29_32) ⟨?_, rfl, e1⟩ (by decide) (by decide)
   rw [o_rb, if_pos c0, if_pos c1]
   try rfl
  ·refine o_fN X1 hx hby o_d29_13 ((if0 _ _).trans (feq c1).1) ?_
   refine o_q T1 (o_f28 m 17 st k i sn frm [(.long st)]) (fun _ k9 => XS.lloadN X1.here hx rfl (hb hby o_d29_16) rfl k9) ?_
   refine o_q T1 (o_f28 m 18 st k i sn frm [(.int i), (.long st)]) (fun _ k9 => XS.iloadN X1.here hx rfl (hb hby o_d29_17) rfl k9) ?_
   obtain ⟨v2, T2, L2, hQ2, X2, st2⟩ := o_callS X1 hx hZ e1 hown (o_m hw 124 rfl) (o_m hw 125 rfl) (by decide) (o_m hw 126 rfl) (o_m hw 122 rfl) (o_c_start l Z a0 hw st i h0) (g := (o_f28 m 18 st k i sn frm [(.int i), (.long st)])) rfl (by rw [hml]; rfl) rfl (argsL := [(.long st), (.int i)]) (rest := []) rfl (lenOf o_pd10 rfl) rfl (hb hby o_d29_18) (o_b rfl) (o_b rfl) (o_b rfl) (o_b rfl)
   obtain ⟨rfl, rfl, e2⟩ := hQ2
   rw [List.append_nil] at X2
   refine o_q T2 (o_f28 m 21 st k i sn frm [(.long (o_sa st i))]) st2 ?_
   refine o_q T2 (o_f28 m 23 st k i sn frm [(.long frm), (.long (o_sa st i))]) (fun _ k9 => XS.lload X2.here hx rfl (hb hby o_d29_21) rfl k9) ?_
   refine o_q T2 (o_f28 m 24 st k i sn frm [(.int (lcmpW (o_sa st i) frm))]) (fun _ k9 => XS.lcmp X2.here hx rfl (hb hby o_d29_23) rfl k9) ?_
   by_cases c2 : (o_sa st i) < frm
   ·refine o_fN X2 hx hby o_d29_24 ((if0 _ _).trans (tlt ((lw_lt _ _).mpr c2)).2.1) ?_
    refine o_iC (1 : Int32) X2 hx hby o_d29_27 rfl ?_
    refine o_go 32 X2 hx hby o_d29_28 ?_
    refine o_retN X2 hx hlk (t := .boolean) hret (by simp) (hb hby o_d29_32) ⟨?_, rfl, e2⟩ (by decide) (by decide)
    rw [o_rb, if_pos c0, if_neg c1, if_pos c2]
    try rfl
   ·refine o_fY 31 X2 hx hby o_d29_24 ((if0 _ _).trans (flt (mt (lw_lt _ _).mp c2)).2.1) ?_
    refine o_iC (0 : Int32) X2 hx hby o_d29_31 rfl ?_
    refine o_retN X2 hx hlk (t := .boolean) hret (by simp) (hb hby o_d29_32) ⟨?_, rfl, e2⟩ (by decide) (by decide)
    rw [o_rb, if_pos c0, if_neg c1, if_neg c2]
    try rfl
 ·refine o_cY 31 X0 hx hby o_d29_5 (flt c0).2.2.2 ?_
  refine o_iC (0 : Int32) X0 hx hby o_d29_31 rfl ?_
  refine o_retN X0 hx hlk (t := .boolean) hret (by simp) (hb hby o_d29_32) ⟨?_, rfl, e0⟩ (by decide) (by decide)
  rw [o_rb, if_neg c0]
  try rfl
def o_bo (st : Int64) (k : Int32) (i : Int32) (sn : Int32) (frm : Int64) (to_ : Int64) : Int32 := (if sn < (i + (2 : Int32)) then (if (o_rl k i) = (0 : Int32) then (if (o_sa st i) < to_ then (if frm < (o_en st i) then (1 : Int32) else (0 : Int32)) else (0 : Int32)) else (0 : Int32)) else (0 : Int32))
theorem o_d30_0 : decode method_11_code 0 = .ok (.iload_n 3, 1) := by decide +kernel
theorem o_d30_1 : decode method_11_code 1 = .ok (.iconst 2, 1) := by decide +kernel
theorem o_d30_2 : decode method_11_code 2 = .ok (.iadd, 1) := by decide +kernel
theorem o_d30_3 : decode method_11_code 3 = .ok (.iload 4, 2) := by decide +kernel
theorem o_d30_5 : decode method_11_code 5 = .ok (.if_icmp .le 37, 3) := by decide +kernel
theorem o_d30_8 : decode method_11_code 8 = .ok (.iload_n 2, 1) := by decide +kernel
theorem o_d30_9 : decode method_11_code 9 = .ok (.iload_n 3, 1) := by decide +kernel
theorem o_d30_10 : decode method_11_code 10 = .ok (.invokestatic 37, 3) := by decide +kernel
theorem o_d30_13 : decode method_11_code 13 = .ok (.ifCond .ne 29, 3) := by decide +kernel
theorem o_d30_16 : decode method_11_code 16 = .ok (.lload_n 0, 1) := by decide +kernel
theorem o_d30_17 : decode method_11_code 17 = .ok (.iload_n 3, 1) := by decide +kernel
theorem o_d30_18 : decode method_11_code 18 = .ok (.invokestatic 69, 3) := by decide +kernel
theorem o_d30_21 : decode method_11_code 21 = .ok (.lload 7, 2) := by decide +kernel
theorem o_d30_23 : decode method_11_code 23 = .ok (.lcmp, 1) := by decide +kernel
theorem o_d30_24 : decode method_11_code 24 = .ok (.ifCond .ge 18, 3) := by decide +kernel
theorem o_d30_27 : decode method_11_code 27 = .ok (.lload_n 0, 1) := by decide +kernel
theorem o_d30_28 : decode method_11_code 28 = .ok (.iload_n 3, 1) := by decide +kernel
theorem o_d30_29 : decode method_11_code 29 = .ok (.invokestatic 73, 3) := by decide +kernel
theorem o_d30_32 : decode method_11_code 32 = .ok (.lload 5, 2) := by decide +kernel
theorem o_d30_34 : decode method_11_code 34 = .ok (.lcmp, 1) := by decide +kernel
theorem o_d30_35 : decode method_11_code 35 = .ok (.ifCond .le 7, 3) := by decide +kernel
theorem o_d30_38 : decode method_11_code 38 = .ok (.iconst 1, 1) := by decide +kernel
theorem o_d30_39 : decode method_11_code 39 = .ok (.goto 4, 3) := by decide +kernel
theorem o_d30_43 : decode method_11_code 43 = .ok (.ireturn, 1) := by decide +kernel
theorem o_d30_42 : decode method_11_code 42 = .ok (.iconst 0, 1) := by decide +kernel
theorem o_pn30 : plainFor (⟨o_n5, "bookOver", "(JIIIJJ)Z"⟩ : MethodName) = true := plainFor_of_name (by first | (simp [plainName, overriddenIn]; done) | decide +kernel)
set_option maxRecDepth 65536 in
set_option maxHeartbeats 40000000 in
theorem o_c_bookOver (l : Launch) (Z : State) (a0 : Array Value) (hw : ∀ d ∈ tables_1, d.before a0 Z = true) (st : Int64) (k : Int32) (i : Int32) (sn : Int32) (frm : Int64) (to_ : Int64) (h0 : Heap)  :
  o_C l (⟨o_n5, "bookOver", "(JIIIJJ)Z"⟩ : MethodName) method_11_code 9 (some .boolean) (o_R 2 0 0 29) Z h0 #[(.long st), (.int k), (.int i), (.int sn), (.long frm), (.long to_)] (o_P (some (.int (o_bo st k i sn frm to_))) h0) := by
 refine o_body o_pn30 ?_
 intro p e s m below meth c s₁ hx hby hml hZ hown hnm hret hlk X0 e0
 refine o_cast (f' := (o_f29 m 0 st k i sn frm to_ [])) (by first | (simp [entryFrame, mkF, argsToLocals, Value.category, maxLocals]; done) | rfl) ?_
 refine o_q s₁ (o_f29 m 1 st k i sn frm to_ [(.int i)]) (fun _ k9 => XS.iloadN X0.here hx rfl (hb hby o_d30_0) rfl k9) ?_
 refine o_iC (2 : Int32) X0 hx hby o_d30_1 rfl ?_
 refine o_q s₁ (o_f29 m 3 st k i sn frm to_ [(.int (i + (2 : Int32)))]) (fun _ k9 => XS.iadd X0.here hx rfl (hb hby o_d30_2) rfl k9) ?_
 refine o_q s₁ (o_f29 m 5 st k i sn frm to_ [(.int sn), (.int (i + (2 : Int32)))]) (fun _ k9 => XS.iload X0.here hx rfl (hb hby o_d30_3) rfl k9) ?_
 by_cases c0 : sn < (i + (2 : Int32))
 ·refine o_cN X0 hx hby o_d30_5 (tlt c0).2.2.2 ?_
  refine o_q s₁ (o_f29 m 9 st k i sn frm to_ [(.int k)]) (fun _ k9 => XS.iloadN X0.here hx rfl (hb hby o_d30_8) rfl k9) ?_
  refine o_q s₁ (o_f29 m 10 st k i sn frm to_ [(.int i), (.int k)]) (fun _ k9 => XS.iloadN X0.here hx rfl (hb hby o_d30_9) rfl k9) ?_
  obtain ⟨v1, T1, L1, hQ1, X1, st1⟩ := o_callS X0 hx hZ e0 hown (o_m hw 145 rfl) (o_m hw 146 rfl) (by decide) (o_m hw 147 rfl) (o_m hw 122 rfl) (o_c_released l Z a0 hw k i h0) (g := (o_f29 m 10 st k i sn frm to_ [(.int i), (.int k)])) rfl (by rw [hml]; rfl) rfl (argsL := [(.int k), (.int i)]) (rest := []) rfl (lenOf o_pd6 rfl) rfl (hb hby o_d30_10) (o_b rfl) (o_b rfl) (o_b rfl) (o_b rfl)
  obtain ⟨rfl, rfl, e1⟩ := hQ1
  rw [List.append_nil] at X1
  refine o_q T1 (o_f29 m 13 st k i sn frm to_ [(.int (o_rl k i))]) st1 ?_
  by_cases c1 : (o_rl k i) = (0 : Int32)
  ·refine o_fN X1 hx hby o_d30_13 ((if0 _ _).trans (teq c1).2) ?_
   refine o_q T1 (o_f29 m 17 st k i sn frm to_ [(.long st)]) (fun _ k9 => XS.lloadN X1.here hx rfl (hb hby o_d30_16) rfl k9) ?_
   refine o_q T1 (o_f29 m 18 st k i sn frm to_ [(.int i), (.long st)]) (fun _ k9 => XS.iloadN X1.here hx rfl (hb hby o_d30_17) rfl k9) ?_
   obtain ⟨v2, T2, L2, hQ2, X2, st2⟩ := o_callS X1 hx hZ e1 hown (o_m hw 124 rfl) (o_m hw 125 rfl) (by decide) (o_m hw 126 rfl) (o_m hw 122 rfl) (o_c_start l Z a0 hw st i h0) (g := (o_f29 m 18 st k i sn frm to_ [(.int i), (.long st)])) rfl (by rw [hml]; rfl) rfl (argsL := [(.long st), (.int i)]) (rest := []) rfl (lenOf o_pd10 rfl) rfl (hb hby o_d30_18) (o_b rfl) (o_b rfl) (o_b rfl) (o_b rfl)
   obtain ⟨rfl, rfl, e2⟩ := hQ2
   rw [List.append_nil] at X2
   refine o_q T2 (o_f29 m 21 st k i sn frm to_ [(.long (o_sa st i))]) st2 ?_
   refine o_q T2 (o_f29 m 23 st k i sn frm to_ [(.long to_), (.long (o_sa st i))]) (fun _ k9 => XS.lload X2.here hx rfl (hb hby o_d30_21) rfl k9) ?_
   refine o_q T2 (o_f29 m 24 st k i sn frm to_ [(.int (lcmpW (o_sa st i) to_))]) (fun _ k9 => XS.lcmp X2.here hx rfl (hb hby o_d30_23) rfl k9) ?_
   by_cases c2 : (o_sa st i) < to_
   ·refine o_fN X2 hx hby o_d30_24 ((if0 _ _).trans (tlt ((lw_lt _ _).mpr c2)).2.1) ?_
    refine o_q T2 (o_f29 m 28 st k i sn frm to_ [(.long st)]) (fun _ k9 => XS.lloadN X2.here hx rfl (hb hby o_d30_27) rfl k9) ?_
    refine o_q T2 (o_f29 m 29 st k i sn frm to_ [(.int i), (.long st)]) (fun _ k9 => XS.iloadN X2.here hx rfl (hb hby o_d30_28) rfl k9) ?_
    obtain ⟨v3, T3, L3, hQ3, X3, st3⟩ := o_callS X2 hx hZ e2 hown (o_m hw 139 rfl) (o_m hw 140 rfl) (by decide) (o_m hw 141 rfl) (o_m hw 122 rfl) (o_c_end l Z a0 hw st i h0) (g := (o_f29 m 29 st k i sn frm to_ [(.int i), (.long st)])) rfl (by rw [hml]; rfl) rfl (argsL := [(.long st), (.int i)]) (rest := []) rfl (lenOf o_pd10 rfl) rfl (hb hby o_d30_29) (o_b rfl) (o_b rfl) (o_b rfl) (o_b rfl)
    obtain ⟨rfl, rfl, e3⟩ := hQ3
    rw [List.append_nil] at X3
    refine o_q T3 (o_f29 m 32 st k i sn frm to_ [(.long (o_en st i))]) st3 ?_
    refine o_q T3 (o_f29 m 34 st k i sn frm to_ [(.long frm), (.long (o_en st i))]) (fun _ k9 => XS.lload X3.here hx rfl (hb hby o_d30_32) rfl k9) ?_
    refine o_q T3 (o_f29 m 35 st k i sn frm to_ [(.int (lcmpW (o_en st i) frm))]) (fun _ k9 => XS.lcmp X3.here hx rfl (hb hby o_d30_34) rfl k9) ?_
    by_cases c3 : frm < (o_en st i)
    ·refine o_fN X3 hx hby o_d30_35 ((if0 _ _).trans (tlt ((lw_gt _ _).mpr c3)).2.2.2) ?_
     refine o_iC (1 : Int32) X3 hx hby o_d30_38 rfl ?_
     refine o_go 43 X3 hx hby o_d30_39 ?_
     refine o_retN X3 hx hlk (t := .boolean) hret (by simp) (hb hby o_d30_43) ⟨?_, rfl, e3⟩ (by decide) (by decide)
     rw [o_bo, if_pos c0, if_pos c1, if_pos c2, if_pos c3]
     try rfl
    ·refine o_fY 42 X3 hx hby o_d30_35 ((if0 _ _).trans (flt (mt (lw_gt _ _).mp c3)).2.2.2) ?_
     refine o_iC (0 : Int32) X3 hx hby o_d30_42 rfl ?_
     refine o_retN X3 hx hlk (t := .boolean) hret (by simp) (hb hby o_d30_43) ⟨?_, rfl, e3⟩ (by decide) (by decide)
     rw [o_bo, if_pos c0, if_pos c1, if_pos c2, if_neg c3]
     try rfl
   ·refine o_fY 42 X2 hx hby o_d30_24 ((if0 _ _).trans (flt (mt (lw_lt _ _).mp c2)).2.1) ?_
    refine o_iC (0 : Int32) X2 hx hby o_d30_42 rfl ?_
    refine o_retN X2 hx hlk (t := .boolean) hret (by simp) (hb hby o_d30_43) ⟨?_, rfl, e2⟩ (by decide) (by decide)
    rw [o_bo, if_pos c0, if_pos c1, if_neg c2]
    try rfl
  ·refine o_fY 42 X1 hx hby o_d30_13 ((if0 _ _).trans (feq c1).2) ?_
   refine o_iC (0 : Int32) X1 hx hby o_d30_42 rfl ?_
   refine o_retN X1 hx hlk (t := .boolean) hret (by simp) (hb hby o_d30_43) ⟨?_, rfl, e1⟩ (by decide) (by decide)
   rw [o_bo, if_pos c0, if_neg c1]
   try rfl
 ·refine o_cY 42 X0 hx hby o_d30_5 (flt c0).2.2.2 ?_
  refine o_iC (0 : Int32) X0 hx hby o_d30_42 rfl ?_
  refine o_retN X0 hx hlk (t := .boolean) hret (by simp) (hb hby o_d30_43) ⟨?_, rfl, e0⟩ (by decide) (by decide)
  rw [o_bo, if_neg c0]
  try rfl
theorem o_vv_m8 (x v : Int32) (lo hi : Int) (bb : lo ≤ x.toInt ∧ x.toInt ≤ hi) (q5 : 0 ≤ lo + (-8)) (q6 : hi + (-8) ≤ 16) (ev : v = x + (-8 : Int32)) : v.toInt = x.toInt + (-8) ∧ 0 ≤ v.toInt ∧ v.toInt ≤ 16 := by
 have e1 : (x + (-8 : Int32)).toInt = x.toInt + (-8) := by
  rw [Jvm.Free.XT.add32 ⟨by rw [show (-8 : Int32).toInt = -8 from by decide]; omega, by rw [show (-8 : Int32).toInt = -8 from by decide]; omega⟩]; rw [show (-8 : Int32).toInt = -8 from by decide]
 rw [ev, e1]
 omega
set_option maxRecDepth 65536 in
set_option maxHeartbeats 40000000 in
theorem o_addS_m8 (l : Launch) (Z : State) (a0 : Array Value) (hw : ∀ d ∈ tables_1, d.before a0 Z = true) (n0 : Nat) (pp rc ru wa tm fr : Addr) (tl la L : Int32) (ch gb : Int64) (xs : Nat → Int64) (fs : Nat → Int32) (rs : Nat → Int64) (start ending : Int64) (cn : Nat) (h0 : Heap) (hP : o_Pr Z n0 pp rc ru wa tm fr tl la L ch gb xs fs rs h0) (ht1 : tl.toInt = 1) (i4 : L.toInt = 4) (hse : start < ending) (hc : ch.toInt = (cn : Int)) (hc2 : cn ≤ 100) (hmi : xs 0 = start) (hma : ending = (9223372036854775807 : Int64)) (hf0 : (fs 0).toInt = 16) :
  o_C l (⟨o_n1, "add", "(JJI)V"⟩ : MethodName) o_y12 10 none (o_R 5 0 0 100) Z h0 #[(.ref pp), (.long start), (.long ending), (.int (-8 : Int32))] (fun v h Ls => ∃ (tm' fr' : Addr) (tl' la' : Int32) (xs' : Nat → Int64) (fs' : Nat → Int32), v = none ∧ Fr n0 Ls ∧ o_Pr Z n0 pp rc ru wa tm' fr' tl' la' L (ch + (1 : Int64)) gb xs' fs' (o_put rs (cn + 1) start ending (0 : Int64)) h ∧ 1 ≤ tl'.toInt ∧ tl'.toInt ≤ tl.toInt + 2 ∧ xs' 0 = xs 0 ∧ o_S 8 8 tl'.toNatClampNeg xs' fs') := by
 refine o_body o_pn7 ?_
 intro p e s m below meth c s₁ hx hby hml hZ hown hnm hret hlk X0 e0
 refine o_cast (f' := (o_f20 m 0 pp start ending (-8 : Int32) [])) (by first | (simp [entryFrame, mkF, argsToLocals, Value.category, maxLocals]; done) | rfl) ?_
 obtain ⟨Ep1, Er1, Ew1, F1_cpus, F1_times, F1_free, F1_head, F1_tail, F1_lastAt, F1_runs, F1_firstKnown, F1_watcher, F1_watchedAs, F1_changes, F1_merged, F1_gaveBack, F1_recent, Fn1, At1, Af1, Ar1, nt1, wl1, gp1, gt1, gf1, gr1, gu1⟩ := hP
 refine o_q s₁ (o_f20 m 1 pp start ending (-8 : Int32) [(.long start)]) (fun _ k9 => XS.lloadN X0.here hx rfl (hb hby o_d7_0) rfl k9) ?_
 refine o_q s₁ (o_f20 m 2 pp start ending (-8 : Int32) [(.long ending), (.long start)]) (fun _ k9 => XS.lloadN X0.here hx rfl (hb hby o_d7_1) rfl k9) ?_
 refine o_q s₁ (o_f20 m 3 pp start ending (-8 : Int32) [(.int (lcmpW start ending))]) (fun _ k9 => XS.lcmp X0.here hx rfl (hb hby o_d7_2) rfl k9) ?_
 refine o_fY 7 X0 hx hby o_d7_3 ((if0 _ _).trans (tlt ((lw_lt _ _).mpr hse)).1) ?_
 refine o_q s₁ (o_f20 m 8 pp start ending (-8 : Int32) [(.ref pp)]) (fun _ k9 => XS.aloadN X0.here hx rfl (hb hby o_d7_7) rfl rfl k9) ?_
 have hP16 : o_Pr Z n0 pp rc ru wa tm fr tl la L ch gb xs fs rs h0 := ⟨Ep1, Er1, Ew1, F1_cpus, F1_times, F1_free, F1_head, F1_tail, F1_lastAt, F1_runs, F1_firstKnown, F1_watcher, F1_watchedAs, F1_changes, F1_merged, F1_gaveBack, F1_recent, Fn1, At1, Af1, Ar1, nt1, wl1, gp1, gt1, gf1, gr1, gu1⟩
 obtain ⟨v17, T17, L17, hQ17, X17, st17⟩ := o_callP X0 hx hZ e0 hown (o_m hw 61 rfl) (o_m hw 62 rfl) (o_m hw 8 rfl) (o_m hw 63 rfl) (by decide) (a := pp) Ep1 (o_m hw 64 rfl) (o_m hw 9 rfl) (o_counts l Z a0 hw n0 pp rc ru wa tm fr tl la L ch gb xs fs rs  h0 hP16 ) (g := (o_f20 m 8 pp start ending (-8 : Int32) [(.ref pp)])) rfl (by rw [hml]; rfl) rfl (argsL := []) (rest := []) rfl (lenOf o_pd0 rfl) rfl (hb hby o_d7_8) (o_b rfl) (o_b rfl) (o_b rfl) (o_b rfl)
 obtain ⟨h17, e17⟩ : ∃ z, T17.heap = z := ⟨_, rfl⟩
 rw [e17] at hQ17
 obtain ⟨rfl, N17, hR17⟩ := hQ17
 have N_17 := Fr.app (Fr.nil _) N17
 obtain ⟨Ep18, Er18, Ew18, F18_cpus, F18_times, F18_free, F18_head, F18_tail, F18_lastAt, F18_runs, F18_firstKnown, F18_watcher, F18_watchedAs, F18_changes, F18_merged, F18_gaveBack, F18_recent, Fn18, At18, Af18, Ar18, nt18, wl18, gp18, gt18, gf18, gr18, gu18⟩ := hR17
 have ne19 : o_ne pp ru := Ep18.ne Er18 (by decide)
 have ne20 : o_ne pp tm := At18.neExa Ep18 (o_m hw 8 rfl)
 have ne22 : o_ne pp fr := Af18.neExa Ep18 (o_m hw 8 rfl)
 have ne24 : o_ne pp rc := Ar18.neExa Ep18 (o_m hw 8 rfl)
 have ne25 : o_ne ru rc := Ar18.neExa Er18 (o_m hw 17 rfl)
 have ne32 : o_ne fr rc := Af18.ne Ar18 (by intro q; cases q)
 refine o_q T17 (o_f20 m 11 pp start ending (-8 : Int32) []) st17 ?_
 refine o_iC (3 : Int32) X17 hx hby o_d7_11 rfl ?_
 refine o_q T17 (o_f20 m 13 pp start ending (-8 : Int32) [(.ref pp), (.int (3 : Int32))]) (fun _ k9 => XS.aloadN X17.here hx rfl (hb hby o_d7_12) rfl rfl k9) ?_
 refine o_q T17 (o_f20 m 14 pp start ending (-8 : Int32) [(.ref pp), (.ref pp), (.int (3 : Int32))]) (fun _ k9 => XS.dup X17.here hx rfl (hb hby o_d7_13) rfl rfl k9) ?_
 refine o_gF X17 hx hZ e17 hby hown (o_m hw 79 rfl) F18_changes o_d7_14 fun T33 X33 e33 => ?_
 refine o_lC (1 : Int64) X33 hx hby o_d7_17 rfl ?_
 refine o_q T33 (o_f20 m 19 pp start ending (-8 : Int32) [(.long (ch + (1 : Int64))), (.ref pp), (.int (3 : Int32))]) (fun _ k9 => XS.ladd X33.here hx rfl (hb hby o_d7_18) rfl k9) ?_
 refine o_q T33 (o_f20 m 20 pp start ending (-8 : Int32) [(.long (ch + (1 : Int64))), (.ref pp), (.long (ch + (1 : Int64))), (.int (3 : Int32))]) (fun _ k9 => by jvm_step X33.here [X33.here.top, hx, (hb hby o_d7_19), Value.category]; exact k9) ?_
 refine o_pF X33 hx hZ e33 hby (ty := .long) hown (o_m hw 79 rfl) F18_changes Ep18 (Or.inl (o_m hw 80 rfl)) (o_m hw 8 rfl) (by decide) rfl rfl o_d7_20 fun T34 h34 X34 e34 W34 => ?_
 have Fw34 := F18_changes.same W34
 have N_34 := Fr.snoc X34 N_17 gp18
 have Y35 := Ep18.wr W34
 have Y36 := Er18.wr W34
 have Y37 := Ew18.wr W34
 have Y38 := F18_cpus.other W34 (o_sn (Or.inr (o_m hw 41 rfl)) (Or.inl (o_m hw 80 rfl)))
 have Y39 := F18_times.other W34 (o_sn (Or.inl (o_m hw 44 rfl)) (Or.inl (o_m hw 80 rfl)))
 have Y40 := F18_free.other W34 (o_sn (Or.inl (o_m hw 47 rfl)) (Or.inl (o_m hw 80 rfl)))
 have Y41 := F18_head.other W34 (o_sn (Or.inl (o_m hw 95 rfl)) (Or.inl (o_m hw 80 rfl)))
 have Y42 := F18_tail.other W34 (o_sn (Or.inl (o_m hw 49 rfl)) (Or.inl (o_m hw 80 rfl)))
 have Y43 := F18_lastAt.other W34 (o_sn (Or.inl (o_m hw 149 rfl)) (Or.inl (o_m hw 80 rfl)))
 have Y44 := F18_runs.other W34 (o_sn (Or.inr (o_m hw 26 rfl)) (Or.inl (o_m hw 80 rfl)))
 have Y45 := F18_firstKnown.other W34 (o_sn (Or.inl (o_m hw 66 rfl)) (Or.inl (o_m hw 80 rfl)))
 have Y46 := F18_watcher.other W34 (o_sn (Or.inl (o_m hw 39 rfl)) (Or.inl (o_m hw 80 rfl)))
 have Y47 := F18_watchedAs.other W34 (o_sn (Or.inl (o_m hw 68 rfl)) (Or.inl (o_m hw 80 rfl)))
 have Y49 := F18_merged.other W34 (o_sn (Or.inl (o_m hw 177 rfl)) (Or.inl (o_m hw 80 rfl)))
 have Y50 := F18_gaveBack.other W34 (o_sn (Or.inl (o_m hw 179 rfl)) (Or.inl (o_m hw 80 rfl)))
 have Y51 := F18_recent.other W34 (o_sn (Or.inr (o_m hw 35 rfl)) (Or.inl (o_m hw 80 rfl)))
 have Y52 := Fn18.other W34 (Or.inl (Ne.symm ne19))
 have Y53 := At18.other W34 (Ne.symm ne20)
 have Y54 := Af18.other W34 (Ne.symm ne22)
 have Y55 := Ar18.other W34 (Ne.symm ne24)
 refine o_q T34 (o_f20 m 26 pp start ending (-8 : Int32) [(.long (8 : Int64)), (.long (ch + (1 : Int64))), (.int (3 : Int32))]) (fun _ k9 => X34.ldc2Long hx hown (mvT hZ (o_m hw 81 rfl)) (g := (o_f20 m 23 pp start ending (-8 : Int32) [(.long (ch + (1 : Int64))), (.int (3 : Int32))])) rfl (hb hby o_d7_23) _ k9) ?_
 refine o_q T34 (o_f20 m 27 pp start ending (-8 : Int32) [(.long ((ch + (1 : Int64)) - ((ch + (1 : Int64)) / (8 : Int64)) * (8 : Int64))), (.int (3 : Int32))]) (fun _ k9 => XS.lrem X34.here hx rfl (hb hby o_d7_26) rfl (by decide) k9) ?_
 refine o_q T34 (o_f20 m 28 pp start ending (-8 : Int32) [(.int (((ch + (1 : Int64)) - ((ch + (1 : Int64)) / (8 : Int64)) * (8 : Int64))).toInt32), (.int (3 : Int32))]) (fun _ k9 => XS.l2i X34.here hx rfl (hb hby o_d7_27) rfl k9) ?_
 refine o_q T34 (o_f20 m 29 pp start ending (-8 : Int32) [(.int ((3 : Int32) * (((ch + (1 : Int64)) - ((ch + (1 : Int64)) / (8 : Int64)) * (8 : Int64))).toInt32))]) (fun _ k9 => XS.imul X34.here hx rfl (hb hby o_d7_28) rfl k9) ?_
 obtain ⟨kp, h_kp⟩ : ∃ z, z = ((3 : Int32) * (((ch + (1 : Int64)) - ((ch + (1 : Int64)) / (8 : Int64)) * (8 : Int64))).toInt32) := ⟨_, rfl⟩
 rw [← h_kp]
 obtain ⟨q8, hq8⟩ : ∃ z, z = (cn + 1) % 8 := ⟨_, rfl⟩
 have hk8 : q8 < 8 := hq8 ▸ Nat.mod_lt _ (by decide)
 have hkp : kp.toInt = 3 * (q8 : Int) := by rw [h_kp, o_kept ch cn hc hc2, ← hq8]; rfl
 refine o_q T34 (o_f21 m 31 pp start ending (-8 : Int32) kp []) (fun _ k9 => XS.istore X34.here hx rfl (hb hby o_d7_29) rfl (l' := (o_t21 pp start ending (-8 : Int32) kp)) rfl k9) ?_
 refine o_q T34 (o_f21 m 32 pp start ending (-8 : Int32) kp [(.ref pp)]) (fun _ k9 => XS.aloadN X34.here hx rfl (hb hby o_d7_31) rfl rfl k9) ?_
 refine o_gF X34 hx hZ e34 hby hown (o_m hw 34 rfl) Y51 o_d7_32 fun T56 X56 e56 => ?_
 refine o_q T56 (o_f21 m 37 pp start ending (-8 : Int32) kp [(.int kp), (.ref rc)]) (fun _ k9 => XS.iload X56.here hx rfl (hb hby o_d7_35) rfl k9) ?_
 refine o_q T56 (o_f21 m 38 pp start ending (-8 : Int32) kp [(.long start), (.int kp), (.ref rc)]) (fun _ k9 => XS.lloadN X56.here hx rfl (hb hby o_d7_37) rfl k9) ?_
 have hin57 : ¬ (kp < (0 : Int32)) ∧ kp < (24 : Int32) := by
  have r1 := rng32 kp
  have k2 : (24 : Int32).toInt = 24 := by decide
  have k3 : (0 : Int32).toInt = 0 := by decide
  rw [Int32.lt_iff_toInt_lt, Int32.lt_iff_toInt_lt]
  omega
 refine o_tJ X56 hx hZ e56 hby Y55 hin57 o_d7_38 fun T58 h58 X58 e58 W58 A58 => ?_
 obtain ⟨f58, d_f58⟩ : ∃ z : Nat → Int64, z = (fun i => if i = kp.toNatClampNeg then start else rs i) := ⟨_, rfl⟩
 rw [← d_f58] at A58
 have N_58 := Fr.snoc X58 N_34 gr18
 have Y59 := Y35.wr W58
 have Y60 := Y36.wr W58
 have Y61 := Y37.wr W58
 have Y62 := Y38.other W58 (Or.inl ne24)
 have Y63 := Y39.other W58 (Or.inl ne24)
 have Y64 := Y40.other W58 (Or.inl ne24)
 have Y65 := Y41.other W58 (Or.inl ne24)
 have Y66 := Y42.other W58 (Or.inl ne24)
 have Y67 := Y43.other W58 (Or.inl ne24)
 have Y68 := Y44.other W58 (Or.inl ne24)
 have Y69 := Y45.other W58 (Or.inl ne24)
 have Y70 := Y46.other W58 (Or.inl ne24)
 have Y71 := Y47.other W58 (Or.inl ne24)
 have Y72 := Fw34.other W58 (Or.inl ne24)
 have Y73 := Y49.other W58 (Or.inl ne24)
 have Y74 := Y50.other W58 (Or.inl ne24)
 have Y75 := Y51.other W58 (Or.inl ne24)
 have Y76 := Y52.other W58 (Or.inl ne25)
 have Y77 := Y53.other W58 nt18
 have Y78 := Y54.other W58 ne32
 refine o_q T58 (o_f21 m 40 pp start ending (-8 : Int32) kp [(.ref pp)]) (fun _ k9 => XS.aloadN X58.here hx rfl (hb hby o_d7_39) rfl rfl k9) ?_
 refine o_gF X58 hx hZ e58 hby hown (o_m hw 34 rfl) Y75 o_d7_40 fun T80 X80 e80 => ?_
 refine o_q T80 (o_f21 m 45 pp start ending (-8 : Int32) kp [(.int kp), (.ref rc)]) (fun _ k9 => XS.iload X80.here hx rfl (hb hby o_d7_43) rfl k9) ?_
 refine o_iC (1 : Int32) X80 hx hby o_d7_45 rfl ?_
 refine o_q T80 (o_f21 m 47 pp start ending (-8 : Int32) kp [(.int (kp + (1 : Int32))), (.ref rc)]) (fun _ k9 => XS.iadd X80.here hx rfl (hb hby o_d7_46) rfl k9) ?_
 refine o_q T80 (o_f21 m 48 pp start ending (-8 : Int32) kp [(.long ending), (.int (kp + (1 : Int32))), (.ref rc)]) (fun _ k9 => XS.lloadN X80.here hx rfl (hb hby o_d7_47) rfl k9) ?_
 have hin81 : ¬ ((kp + (1 : Int32)) < (0 : Int32)) ∧ (kp + (1 : Int32)) < (24 : Int32) := by
  have r1 := rng32 kp
  have k2 : (1 : Int32).toInt = 1 := by decide
  have e3 : ((kp + (1 : Int32))).toInt = kp.toInt + 1 := by
   rw [Jvm.Free.XT.add32 ⟨by rw [show (1 : Int32).toInt = 1 from by decide]; omega, by rw [show (1 : Int32).toInt = 1 from by decide]; omega⟩]; rw [show (1 : Int32).toInt = 1 from by decide]
  have k4 : (24 : Int32).toInt = 24 := by decide
  have k5 : (0 : Int32).toInt = 0 := by decide
  rw [Int32.lt_iff_toInt_lt, Int32.lt_iff_toInt_lt]
  omega
 refine o_tJ X80 hx hZ e80 hby A58 hin81 o_d7_48 fun T82 h82 X82 e82 W82 A82 => ?_
 obtain ⟨f82, d_f82⟩ : ∃ z : Nat → Int64, z = (fun i => if i = ((kp + (1 : Int32))).toNatClampNeg then ending else f58 i) := ⟨_, rfl⟩
 rw [← d_f82] at A82
 have N_82 := Fr.snoc X82 N_58 gr18
 have Y83 := Y59.wr W82
 have Y84 := Y60.wr W82
 have Y85 := Y61.wr W82
 have Y86 := Y62.other W82 (Or.inl ne24)
 have Y87 := Y63.other W82 (Or.inl ne24)
 have Y88 := Y64.other W82 (Or.inl ne24)
 have Y89 := Y65.other W82 (Or.inl ne24)
 have Y90 := Y66.other W82 (Or.inl ne24)
 have Y91 := Y67.other W82 (Or.inl ne24)
 have Y92 := Y68.other W82 (Or.inl ne24)
 have Y93 := Y69.other W82 (Or.inl ne24)
 have Y94 := Y70.other W82 (Or.inl ne24)
 have Y95 := Y71.other W82 (Or.inl ne24)
 have Y96 := Y72.other W82 (Or.inl ne24)
 have Y97 := Y73.other W82 (Or.inl ne24)
 have Y98 := Y74.other W82 (Or.inl ne24)
 have Y99 := Y75.other W82 (Or.inl ne24)
 have Y100 := Y76.other W82 (Or.inl ne25)
 have Y101 := Y77.other W82 nt18
 have Y102 := Y78.other W82 ne32
 refine o_q T82 (o_f21 m 50 pp start ending (-8 : Int32) kp [(.ref pp)]) (fun _ k9 => XS.aloadN X82.here hx rfl (hb hby o_d7_49) rfl rfl k9) ?_
 refine o_gF X82 hx hZ e82 hby hown (o_m hw 34 rfl) Y99 o_d7_50 fun T104 X104 e104 => ?_
 refine o_q T104 (o_f21 m 55 pp start ending (-8 : Int32) kp [(.int kp), (.ref rc)]) (fun _ k9 => XS.iload X104.here hx rfl (hb hby o_d7_53) rfl k9) ?_
 refine o_iC (2 : Int32) X104 hx hby o_d7_55 rfl ?_
 refine o_q T104 (o_f21 m 57 pp start ending (-8 : Int32) kp [(.int (kp + (2 : Int32))), (.ref rc)]) (fun _ k9 => XS.iadd X104.here hx rfl (hb hby o_d7_56) rfl k9) ?_
 refine o_q T104 (o_f21 m 59 pp start ending (-8 : Int32) kp [(.int (-8 : Int32)), (.int (kp + (2 : Int32))), (.ref rc)]) (fun _ k9 => XS.iload X104.here hx rfl (hb hby o_d7_57) rfl k9) ?_
 refine o_fY 66 X104 hx hby o_d7_59 ((if0 _ _).trans (flt (by decide : ¬ ((0 : Int32) < (-8 : Int32)))).2.2.2) ?_
 refine o_lC (0 : Int64) X104 hx hby o_d7_66 rfl ?_
 have hin105 : ¬ ((kp + (2 : Int32)) < (0 : Int32)) ∧ (kp + (2 : Int32)) < (24 : Int32) := by
  have r1 := rng32 kp
  have k2 : (2 : Int32).toInt = 2 := by decide
  have e3 : ((kp + (2 : Int32))).toInt = kp.toInt + 2 := by
   rw [Jvm.Free.XT.add32 ⟨by rw [show (2 : Int32).toInt = 2 from by decide]; omega, by rw [show (2 : Int32).toInt = 2 from by decide]; omega⟩]; rw [show (2 : Int32).toInt = 2 from by decide]
  have k4 : (24 : Int32).toInt = 24 := by decide
  have k5 : (0 : Int32).toInt = 0 := by decide
  rw [Int32.lt_iff_toInt_lt, Int32.lt_iff_toInt_lt]
  omega
 refine o_tJ X104 hx hZ e104 hby A82 hin105 o_d7_67 fun T106 h106 X106 e106 W106 A106 => ?_
 obtain ⟨f106, d_f106⟩ : ∃ z : Nat → Int64, z = (fun i => if i = ((kp + (2 : Int32))).toNatClampNeg then (0 : Int64) else f82 i) := ⟨_, rfl⟩
 rw [← d_f106] at A106
 have N_106 := Fr.snoc X106 N_82 gr18
 have Y107 := Y83.wr W106
 have Y108 := Y84.wr W106
 have Y109 := Y85.wr W106
 have Y110 := Y86.other W106 (Or.inl ne24)
 have Y111 := Y87.other W106 (Or.inl ne24)
 have Y112 := Y88.other W106 (Or.inl ne24)
 have Y113 := Y89.other W106 (Or.inl ne24)
 have Y114 := Y90.other W106 (Or.inl ne24)
 have Y115 := Y91.other W106 (Or.inl ne24)
 have Y116 := Y92.other W106 (Or.inl ne24)
 have Y117 := Y93.other W106 (Or.inl ne24)
 have Y118 := Y94.other W106 (Or.inl ne24)
 have Y119 := Y95.other W106 (Or.inl ne24)
 have Y120 := Y96.other W106 (Or.inl ne24)
 have Y121 := Y97.other W106 (Or.inl ne24)
 have Y122 := Y98.other W106 (Or.inl ne24)
 have Y123 := Y99.other W106 (Or.inl ne24)
 have Y124 := Y100.other W106 (Or.inl ne25)
 have Y125 := Y101.other W106 nt18
 have Y126 := Y102.other W106 ne32
 have ja : kp.toNatClampNeg = 3 * q8 := by
  have r1 := rng32 kp
  have n0 := o_nat (kp) (by omega)
  omega
 have jb : ((kp + (1 : Int32))).toNatClampNeg = 3 * q8 + 1 := by
  have r1 := rng32 kp
  have k2 : (1 : Int32).toInt = 1 := by decide
  have e3 : ((kp + (1 : Int32))).toInt = kp.toInt + 1 := by
   rw [Jvm.Free.XT.add32 ⟨by rw [show (1 : Int32).toInt = 1 from by decide]; omega, by rw [show (1 : Int32).toInt = 1 from by decide]; omega⟩]; rw [show (1 : Int32).toInt = 1 from by decide]
  have n0 := o_nat ((kp + (1 : Int32))) (by omega)
  omega
 have jc : ((kp + (2 : Int32))).toNatClampNeg = 3 * q8 + 2 := by
  have r1 := rng32 kp
  have k2 : (2 : Int32).toInt = 2 := by decide
  have e3 : ((kp + (2 : Int32))).toInt = kp.toInt + 2 := by
   rw [Jvm.Free.XT.add32 ⟨by rw [show (2 : Int32).toInt = 2 from by decide]; omega, by rw [show (2 : Int32).toInt = 2 from by decide]; omega⟩]; rw [show (2 : Int32).toInt = 2 from by decide]
  have n0 := o_nat ((kp + (2 : Int32))) (by omega)
  omega
 have RC : o_LA Z h106 rc (24 : Int32) (o_put rs (cn + 1) start ending (0 : Int64)) := A106.congr fun i _ => by
  rw [d_f106, d_f82, d_f58]
  dsimp only [o_put]
  rw [ja, jb, jc, hq8]
 refine o_q T106 (o_f21 m 70 pp start ending (-8 : Int32) kp [(.int (-8 : Int32))]) (fun _ k9 => XS.iload X106.here hx rfl (hb hby o_d7_68) rfl k9) ?_
 refine o_fY 81 X106 hx hby o_d7_70 ((if0 _ _).trans (flt (by decide : ¬ ((0 : Int32) < (-8 : Int32)))).2.2.2) ?_
 refine o_q T106 (o_f21 m 82 pp start ending (-8 : Int32) kp [(.ref pp)]) (fun _ k9 => XS.aloadN X106.here hx rfl (hb hby o_d7_81) rfl rfl k9) ?_
 refine o_q T106 (o_f21 m 83 pp start ending (-8 : Int32) kp [(.ref pp), (.ref pp)]) (fun _ k9 => XS.aloadN X106.here hx rfl (hb hby o_d7_82) rfl rfl k9) ?_
 refine o_gF X106 hx hZ e106 hby hown (o_m hw 48 rfl) Y114 o_d7_83 fun T128 X128 e128 => ?_
 refine o_iC (2 : Int32) X128 hx hby o_d7_86 rfl ?_
 refine o_q T128 (o_f21 m 88 pp start ending (-8 : Int32) kp [(.int (tl + (2 : Int32))), (.ref pp)]) (fun _ k9 => XS.iadd X128.here hx rfl (hb hby o_d7_87) rfl k9) ?_
 have hP129 : o_Pr Z n0 pp rc ru wa tm fr tl la L (ch + (1 : Int64)) gb xs fs (o_put rs (cn + 1) start ending (0 : Int64)) h106 := ⟨Y107, Y108, Y109, Y110, Y111, Y112, Y113, Y114, Y115, Y116, Y117, Y118, Y119, Y120, Y121, Y122, Y123, Y124, Y125, Y126, RC, nt18, wl18, gp18, gt18, gf18, gr18, gu18⟩
 have q130 : ((tl + (2 : Int32))).toInt ≤ L.toInt := by
  have r1 := rng32 tl
  have k2 : (2 : Int32).toInt = 2 := by decide
  have e3 : ((tl + (2 : Int32))).toInt = tl.toInt + 2 := by
   rw [Jvm.Free.XT.add32 ⟨by rw [show (2 : Int32).toInt = 2 from by decide]; omega, by rw [show (2 : Int32).toInt = 2 from by decide]; omega⟩]; rw [show (2 : Int32).toInt = 2 from by decide]
  have r4 := rng32 L
  omega
 obtain ⟨v131, T131, L131, hQ131, X131, st131⟩ := o_callP X128 hx hZ e128 hown (o_m hw 82 rfl) (o_m hw 83 rfl) (o_m hw 8 rfl) (o_m hw 84 rfl) (by decide) (a := pp) Y107 (o_m hw 85 rfl) (o_m hw 9 rfl) (o_room0 l Z a0 hw n0 pp rc ru wa tm fr tl la L (ch + (1 : Int64)) gb xs fs (o_put rs (cn + 1) start ending (0 : Int64)) (tl + (2 : Int32)) h106 hP129 q130) (g := (o_f21 m 88 pp start ending (-8 : Int32) kp [(.int (tl + (2 : Int32))), (.ref pp)])) rfl (by rw [hml]; rfl) rfl (argsL := [(.int (tl + (2 : Int32)))]) (rest := []) rfl (lenOf o_pd1 rfl) rfl (hb hby o_d7_88) (o_b rfl) (o_b rfl) (o_b rfl) (o_b rfl)
 obtain ⟨rfl, rfl, e131⟩ := hQ131
 rw [List.append_nil] at X131
 refine o_q T131 (o_f21 m 91 pp start ending (-8 : Int32) kp [(.int (0 : Int32))]) st131 ?_
 refine o_q T131 (o_f21 m 92 pp start ending (-8 : Int32) kp []) (fun _ k9 => XS.pop X131.here hx rfl (hb hby o_d7_91) rfl rfl k9) ?_
 refine o_q T131 (o_f21 m 93 pp start ending (-8 : Int32) kp [(.ref pp)]) (fun _ k9 => XS.aloadN X131.here hx rfl (hb hby o_d7_92) rfl rfl k9) ?_
 refine o_q T131 (o_f21 m 94 pp start ending (-8 : Int32) kp [(.long start), (.ref pp)]) (fun _ k9 => XS.lloadN X131.here hx rfl (hb hby o_d7_93) rfl k9) ?_
 have q132 : 1 ≤ tl.toInt := by
  have r1 := rng32 tl
  omega
 have q133 : tl.toInt ≤ L.toInt := by
  have r1 := rng32 tl
  have r2 := rng32 L
  omega
 have q134 : L.toInt ≤ 32 := by
  have r1 := rng32 L
  omega
 have q135 : tl.toInt + 1 ≤ L.toInt := by
  have r1 := rng32 tl
  have r2 := rng32 L
  omega
 have hP136 : o_Pr Z n0 pp rc ru wa tm fr tl la L (ch + (1 : Int64)) gb xs fs (o_put rs (cn + 1) start ending (0 : Int64)) h106 := ⟨Y107, Y108, Y109, Y110, Y111, Y112, Y113, Y114, Y115, Y116, Y117, Y118, Y119, Y120, Y121, Y122, Y123, Y124, Y125, Y126, RC, nt18, wl18, gp18, gt18, gf18, gr18, gu18⟩
 obtain ⟨v137, T137, L137, hQ137, X137, st137⟩ := o_callP X131 hx hZ e131 hown (o_m hw 86 rfl) (o_m hw 87 rfl) (o_m hw 8 rfl) (o_m hw 88 rfl) (by decide) (a := pp) Y107 (o_m hw 89 rfl) (o_m hw 9 rfl) (o_split l Z a0 hw n0 pp rc ru wa tm fr tl la L (ch + (1 : Int64)) gb xs fs (o_put rs (cn + 1) start ending (0 : Int64)) start h106 hP136 q132 q133 q134 q135) (g := (o_f21 m 94 pp start ending (-8 : Int32) kp [(.long start), (.ref pp)])) rfl (by rw [hml]; rfl) rfl (argsL := [(.long start)]) (rest := []) rfl (lenOf o_pd8 rfl) rfl (hb hby o_d7_94) (o_b rfl) (o_b rfl) (o_b rfl) (o_b rfl)
 obtain ⟨h137, e137⟩ : ∃ z, T137.heap = z := ⟨_, rfl⟩
 rw [e137] at hQ137
 obtain ⟨r137, tl137, la137, xs137, fs137, rfl, N137, hR137, pa137, pb137, pc137, pd137, pe137, pf137, pg137, ph137⟩ := hQ137
 have N_137 := Fr.app N_106 N137
 obtain ⟨Ep138, Er138, Ew138, F138_cpus, F138_times, F138_free, F138_head, F138_tail, F138_lastAt, F138_runs, F138_firstKnown, F138_watcher, F138_watchedAs, F138_changes, F138_merged, F138_gaveBack, F138_recent, Fn138, At138, Af138, Ar138, nt138, wl138, gp138, gt138, gf138, gr138, gu138⟩ := hR137
 refine o_q T137 (o_f21 m 97 pp start ending (-8 : Int32) kp [(.int r137)]) st137 ?_
 refine o_q T137 (o_f22 m 99 pp start ending (-8 : Int32) kp r137 []) (fun _ k9 => XS.istore X137.here hx rfl (hb hby o_d7_97) rfl (l' := (o_t22 pp start ending (-8 : Int32) kp r137)) rfl k9) ?_
 refine o_q T137 (o_f22 m 100 pp start ending (-8 : Int32) kp r137 [(.ref pp)]) (fun _ k9 => XS.aloadN X137.here hx rfl (hb hby o_d7_99) rfl rfl k9) ?_
 refine o_q T137 (o_f22 m 101 pp start ending (-8 : Int32) kp r137 [(.long ending), (.ref pp)]) (fun _ k9 => XS.lloadN X137.here hx rfl (hb hby o_d7_100) rfl k9) ?_
 have q153 : 1 ≤ tl137.toInt := by
  have r1 := rng32 tl137
  omega
 have q154 : tl137.toInt ≤ L.toInt := by
  have r1 := rng32 tl137
  have r2 := rng32 L
  omega
 have q155 : L.toInt ≤ 32 := by
  have r1 := rng32 L
  omega
 have q156 : tl137.toInt + 1 ≤ L.toInt := by
  have r1 := rng32 tl137
  have r2 := rng32 L
  omega
 have hP157 : o_Pr Z n0 pp rc ru wa tm fr tl137 la137 L (ch + (1 : Int64)) gb xs137 fs137 (o_put rs (cn + 1) start ending (0 : Int64)) h137 := ⟨Ep138, Er138, Ew138, F138_cpus, F138_times, F138_free, F138_head, F138_tail, F138_lastAt, F138_runs, F138_firstKnown, F138_watcher, F138_watchedAs, F138_changes, F138_merged, F138_gaveBack, F138_recent, Fn138, At138, Af138, Ar138, nt138, wl138, gp138, gt138, gf138, gr138, gu138⟩
 obtain ⟨v158, T158, L158, hQ158, X158, st158⟩ := o_callP X137 hx hZ e137 hown (o_m hw 86 rfl) (o_m hw 87 rfl) (o_m hw 8 rfl) (o_m hw 88 rfl) (by decide) (a := pp) Ep138 (o_m hw 89 rfl) (o_m hw 9 rfl) (o_split l Z a0 hw n0 pp rc ru wa tm fr tl137 la137 L (ch + (1 : Int64)) gb xs137 fs137 (o_put rs (cn + 1) start ending (0 : Int64)) ending h137 hP157 q153 q154 q155 q156) (g := (o_f22 m 101 pp start ending (-8 : Int32) kp r137 [(.long ending), (.ref pp)])) rfl (by rw [hml]; rfl) rfl (argsL := [(.long ending)]) (rest := []) rfl (lenOf o_pd8 rfl) rfl (hb hby o_d7_101) (o_b rfl) (o_b rfl) (o_b rfl) (o_b rfl)
 obtain ⟨h158, e158⟩ : ∃ z, T158.heap = z := ⟨_, rfl⟩
 rw [e158] at hQ158
 obtain ⟨r158, tl158, la158, xs158, fs158, rfl, N158, hR158, pa158, pb158, pc158, pd158, pe158, pf158, pg158, ph158⟩ := hQ158
 have N_158 := Fr.app N_137 N158
 obtain ⟨Ep159, Er159, Ew159, F159_cpus, F159_times, F159_free, F159_head, F159_tail, F159_lastAt, F159_runs, F159_firstKnown, F159_watcher, F159_watchedAs, F159_changes, F159_merged, F159_gaveBack, F159_recent, Fn159, At159, Af159, Ar159, nt159, wl159, gp159, gt159, gf159, gr159, gu159⟩ := hR158
 have ne163 : o_ne pp fr := Af159.neExa Ep159 (o_m hw 8 rfl)
 have ne164 : o_ne ru fr := Af159.neExa Er159 (o_m hw 17 rfl)
 have ne172 : o_ne tm fr := At159.ne Af159 (by intro q; cases q)
 have ne173 : o_ne fr rc := Af159.ne Ar159 (by intro q; cases q)
 refine o_q T158 (o_f22 m 104 pp start ending (-8 : Int32) kp r137 [(.int r158)]) st158 ?_
 refine o_q T158 (o_f23 m 106 pp start ending (-8 : Int32) kp r137 r158 []) (fun _ k9 => XS.istore X158.here hx rfl (hb hby o_d7_104) rfl (l' := (o_t23 pp start ending (-8 : Int32) kp r137 r158)) rfl k9) ?_
 refine o_q T158 (o_f23 m 108 pp start ending (-8 : Int32) kp r137 r158 [(.int r137)]) (fun _ k9 => XS.iload X158.here hx rfl (hb hby o_d7_106) rfl k9) ?_
 refine o_q T158 (o_f19 m 110 pp start ending (-8 : Int32) kp r137 r158 r137 []) (fun _ k9 => XS.istore X158.here hx rfl (hb hby o_d7_108) rfl (l' := (o_t19 pp start ending (-8 : Int32) kp r137 r158 r137)) rfl k9) ?_
 obtain ⟨ua, ub, uc, ud⟩ : r137.toInt = 0 ∧ tl137.toInt = 1 ∧ xs137 = xs ∧ fs137 = fs := (ph137 ht1).elim (fun q => q.2) (fun q => absurd hmi q.1)
 obtain ⟨va, vb, vc, vd, ve⟩ : r158.toInt = 1 ∧ tl158.toInt = 2 ∧ xs158 1 = ending ∧ fs158 0 = fs137 0 ∧ fs158 1 = fs137 0 := (ph158 ub).elim (fun q => absurd hse (by have e := q.1; rw [uc, hmi] at e; rw [e]; exact fun y => Int64.lt_irrefl y)) (fun q => q.2)
 rw [ud] at vd ve
 have wn : r137.toNatClampNeg = 0 := by have := o_nat r137 (by omega); omega
 have wt : tl158.toNatClampNeg = 2 := by have := o_nat tl158 (by omega); omega
 refine o_q T158 (o_f19 m 112 pp start ending (-8 : Int32) kp r137 r158 r137 [(.int r137)]) (fun _ k9 => XS.iload X158.here hx rfl (hb hby o_d7_110) rfl k9) ?_
 refine o_q T158 (o_f19 m 114 pp start ending (-8 : Int32) kp r137 r158 r137 [(.int r158), (.int r137)]) (fun _ k9 => XS.iload X158.here hx rfl (hb hby o_d7_112) rfl k9) ?_
 have q174 : r137.toInt < r158.toInt := by
  have r1 := rng32 r137
  have r2 := rng32 r158
  omega
 refine o_cN X158 hx hby o_d7_114 (tlt (Int32.lt_iff_toInt_lt.mpr q174)).2.1 ?_
 refine o_q T158 (o_f19 m 118 pp start ending (-8 : Int32) kp r137 r158 r137 [(.ref pp)]) (fun _ k9 => XS.aloadN X158.here hx rfl (hb hby o_d7_117) rfl rfl k9) ?_
 refine o_gF X158 hx hZ e158 hby hown (o_m hw 46 rfl) F159_free o_d7_118 fun T175 X175 e175 => ?_
 refine o_q T175 (o_f19 m 123 pp start ending (-8 : Int32) kp r137 r158 r137 [(.int r137), (.ref fr)]) (fun _ k9 => XS.iload X175.here hx rfl (hb hby o_d7_121) rfl k9) ?_
 refine o_q T175 (o_f19 m 124 pp start ending (-8 : Int32) kp r137 r158 r137 [(.int r137), (.ref fr), (.int r137), (.ref fr)]) (fun _ k9 => Jvm.Free.XT.dup2 X175.here hx rfl (hb hby o_d7_123) rfl rfl rfl k9) ?_
 have hin176 : ¬ (r137 < (0 : Int32)) ∧ r137 < L := by
  have r1 := rng32 r137
  have r2 := rng32 L
  have k3 : (0 : Int32).toInt = 0 := by decide
  rw [Int32.lt_iff_toInt_lt, Int32.lt_iff_toInt_lt]
  omega
 refine o_dI X175 hx hZ e175 hby Af159 hin176 o_d7_124 ?_
 refine o_q T175 (o_f19 m 127 pp start ending (-8 : Int32) kp r137 r158 r137 [(.int (-8 : Int32)), (.int (fs158 r137.toNatClampNeg)), (.int r137), (.ref fr)]) (fun _ k9 => XS.iload X175.here hx rfl (hb hby o_d7_125) rfl k9) ?_
 refine o_q T175 (o_f19 m 128 pp start ending (-8 : Int32) kp r137 r158 r137 [(.int ((fs158 r137.toNatClampNeg) + (-8 : Int32))), (.int r137), (.ref fr)]) (fun _ k9 => XS.iadd X175.here hx rfl (hb hby o_d7_127) rfl k9) ?_
 have hin177 : ¬ (r137 < (0 : Int32)) ∧ r137 < L := by
  have r1 := rng32 r137
  have r2 := rng32 L
  have k3 : (0 : Int32).toInt = 0 := by decide
  rw [Int32.lt_iff_toInt_lt, Int32.lt_iff_toInt_lt]
  omega
 refine o_tI X175 hx hZ e175 hby Af159 hin177 o_d7_128 fun T178 h178 X178 e178 W178 A178 => ?_
 obtain ⟨f178, d_f178⟩ : ∃ z : Nat → Int32, z = (fun i => if i = r137.toNatClampNeg then ((fs158 r137.toNatClampNeg) + (-8 : Int32)) else fs158 i) := ⟨_, rfl⟩
 rw [← d_f178] at A178
 have N_178 := Fr.snoc X178 N_158 gf159
 have Y179 := Ep159.wr W178
 have Y180 := Er159.wr W178
 have Y181 := Ew159.wr W178
 have Y182 := F159_cpus.other W178 (Or.inl ne163)
 have Y183 := F159_times.other W178 (Or.inl ne163)
 have Y184 := F159_free.other W178 (Or.inl ne163)
 have Y185 := F159_head.other W178 (Or.inl ne163)
 have Y186 := F159_tail.other W178 (Or.inl ne163)
 have Y187 := F159_lastAt.other W178 (Or.inl ne163)
 have Y188 := F159_runs.other W178 (Or.inl ne163)
 have Y189 := F159_firstKnown.other W178 (Or.inl ne163)
 have Y190 := F159_watcher.other W178 (Or.inl ne163)
 have Y191 := F159_watchedAs.other W178 (Or.inl ne163)
 have Y192 := F159_changes.other W178 (Or.inl ne163)
 have Y193 := F159_merged.other W178 (Or.inl ne163)
 have Y194 := F159_gaveBack.other W178 (Or.inl ne163)
 have Y195 := F159_recent.other W178 (Or.inl ne163)
 have Y196 := Fn159.other W178 (Or.inl ne164)
 have Y197 := At159.other W178 ne172
 have Y199 := Ar159.other W178 (Ne.symm ne173)
 refine o_q T178 (o_f19 m 130 pp start ending (-8 : Int32) kp r137 r158 r137 [(.ref pp)]) (fun _ k9 => XS.aloadN X178.here hx rfl (hb hby o_d7_129) rfl rfl k9) ?_
 refine o_q T178 (o_f19 m 131 pp start ending (-8 : Int32) kp r137 r158 r137 [(.ref pp), (.ref pp)]) (fun _ k9 => XS.aloadN X178.here hx rfl (hb hby o_d7_130) rfl rfl k9) ?_
 refine o_gF X178 hx hZ e178 hby hown (o_m hw 46 rfl) Y184 o_d7_131 fun T200 X200 e200 => ?_
 refine o_q T200 (o_f19 m 136 pp start ending (-8 : Int32) kp r137 r158 r137 [(.int r137), (.ref fr), (.ref pp)]) (fun _ k9 => XS.iload X200.here hx rfl (hb hby o_d7_134) rfl k9) ?_
 have hin201 : ¬ (r137 < (0 : Int32)) ∧ r137 < L := by
  have r1 := rng32 r137
  have r2 := rng32 L
  have k3 : (0 : Int32).toInt = 0 := by decide
  rw [Int32.lt_iff_toInt_lt, Int32.lt_iff_toInt_lt]
  omega
 refine o_dI X200 hx hZ e200 hby A178 hin201 o_d7_136 ?_
 refine o_q T200 (o_f19 m 138 pp start ending (-8 : Int32) kp r137 r158 r137 [(.ref pp), (.int (f178 r137.toNatClampNeg)), (.ref pp)]) (fun _ k9 => XS.aloadN X200.here hx rfl (hb hby o_d7_137) rfl rfl k9) ?_
 refine o_gF X200 hx hZ e200 hby hown (o_m hw 43 rfl) Y183 o_d7_138 fun T202 X202 e202 => ?_
 refine o_q T202 (o_f19 m 143 pp start ending (-8 : Int32) kp r137 r158 r137 [(.int r137), (.ref tm), (.int (f178 r137.toNatClampNeg)), (.ref pp)]) (fun _ k9 => XS.iload X202.here hx rfl (hb hby o_d7_141) rfl k9) ?_
 have hin203 : ¬ (r137 < (0 : Int32)) ∧ r137 < L := by
  have r1 := rng32 r137
  have r2 := rng32 L
  have k3 : (0 : Int32).toInt = 0 := by decide
  rw [Int32.lt_iff_toInt_lt, Int32.lt_iff_toInt_lt]
  omega
 refine o_dJ X202 hx hZ e202 hby Y197 hin203 o_d7_143 ?_
 have ev : (f178 r137.toNatClampNeg) = fs158 r137.toNatClampNeg + (-8 : Int32) := by rw [d_f178]; dsimp only; rw [if_pos rfl]
 have vv := o_vv_m8 _ _ 16 16 (by rw [wn, vd]; omega) (by decide) (by decide) ev
 have w8 : (f178 0).toInt = 8 := by have y := vv.1; rw [wn] at y; rw [y, vd]; omega
 have w16 : (f178 1).toInt = 16 := by rw [d_f178]; dsimp only; rw [wn, if_neg (by decide), ve]; exact hf0
 have SX : o_S 8 8 tl158.toNatClampNeg xs158 f178 := by
  rw [wt]
  refine Or.inr ⟨by decide, fun i hi => ?_, vc.trans hma, w16⟩
  rcases (show i = 0 ∨ i = 1 by omega) with rfl | rfl
  ·exact Or.inl ⟨by omega, by omega⟩
  ·exact Or.inr ⟨rfl, w16⟩
 obtain ⟨v204, T204, L204, hQ204, X204, st204⟩ := o_callP X202 hx hZ e202 hown (o_m hw 107 rfl) (o_m hw 108 rfl) (o_m hw 8 rfl) (o_m hw 109 rfl) (by decide) (a := pp) Y179 (o_m hw 110 rfl) (o_m hw 9 rfl) (o_k14_6 l Z a0 hw pp (f178 r137.toNatClampNeg) (xs158 r137.toNatClampNeg) h178 (o_nlt0 vv.2.1) Y182 (o_nlt16 vv.2.2)) (g := (o_f19 m 144 pp start ending (-8 : Int32) kp r137 r158 r137 [(.long (xs158 r137.toNatClampNeg)), (.int (f178 r137.toNatClampNeg)), (.ref pp)])) rfl (by rw [hml]; rfl) rfl (argsL := [(.int (f178 r137.toNatClampNeg)), (.long (xs158 r137.toNatClampNeg))]) (rest := []) rfl (lenOf o_pd7 rfl) rfl (hb hby o_d7_144) (o_b rfl) (o_b rfl) (o_b rfl) (o_b rfl)
 obtain ⟨rfl, rfl, e204⟩ := hQ204
 rw [List.append_nil] at X204
 refine o_q T204 (o_f19 m 147 pp start ending (-8 : Int32) kp r137 r158 r137 []) st204 ?_
 refine o_q T204 (o_f19 m 150 pp start ending (-8 : Int32) kp r137 r158 (r137 + (1 : Int32)) []) (fun _ k9 => XS.iinc X204.here hx rfl (hb hby o_d7_147) rfl (l' := (o_t19 pp start ending (-8 : Int32) kp r137 r158 (r137 + (1 : Int32)))) rfl k9) ?_
 refine o_go 110 X204 hx hby o_d7_150 ?_
 refine o_q T204 (o_f19 m 112 pp start ending (-8 : Int32) kp r137 r158 (r137 + (1 : Int32)) [(.int (r137 + (1 : Int32)))]) (fun _ k9 => XS.iload X204.here hx rfl (hb hby o_d7_110) rfl k9) ?_
 refine o_q T204 (o_f19 m 114 pp start ending (-8 : Int32) kp r137 r158 (r137 + (1 : Int32)) [(.int r158), (.int (r137 + (1 : Int32)))]) (fun _ k9 => XS.iload X204.here hx rfl (hb hby o_d7_112) rfl k9) ?_
 have q205 : ¬ (((r137 + (1 : Int32))).toInt < r158.toInt) := by
  have r1 := rng32 r137
  have k2 : (1 : Int32).toInt = 1 := by decide
  have e3 : ((r137 + (1 : Int32))).toInt = r137.toInt + 1 := by
   rw [Jvm.Free.XT.add32 ⟨by rw [show (1 : Int32).toInt = 1 from by decide]; omega, by rw [show (1 : Int32).toInt = 1 from by decide]; omega⟩]; rw [show (1 : Int32).toInt = 1 from by decide]
  have r4 := rng32 r158
  omega
 refine o_cY 153 X204 hx hby o_d7_114 (flt (mt Int32.lt_iff_toInt_lt.mp q205)).2.1 ?_
 refine o_q T204 (o_f19 m 154 pp start ending (-8 : Int32) kp r137 r158 (r137 + (1 : Int32)) [(.ref pp)]) (fun _ k9 => XS.aloadN X204.here hx rfl (hb hby o_d7_153) rfl rfl k9) ?_
 refine o_gF X204 hx hZ e204 hby hown (o_m hw 25 rfl) Y188 o_d7_154 fun T206 X206 e206 => ?_
 refine o_q T206 (o_f19 m 159 pp start ending (-8 : Int32) kp r137 r158 (r137 + (1 : Int32)) [(.int r137), (.ref ru)]) (fun _ k9 => XS.iload X206.here hx rfl (hb hby o_d7_157) rfl k9) ?_
 refine o_q T206 (o_f19 m 161 pp start ending (-8 : Int32) kp r137 r158 (r137 + (1 : Int32)) [(.int r158), (.int r137), (.ref ru)]) (fun _ k9 => XS.iload X206.here hx rfl (hb hby o_d7_159) rfl k9) ?_
 obtain ⟨v207, T207, L207, hQ207, X207, st207⟩ := o_callV X206 hx hZ e206 hown (o_m hw 111 rfl) (o_m hw 112 rfl) (o_m hw 114 rfl) (o_m hw 113 rfl) (by decide) (b := ru) Y180 (o_m hw 115 rfl) (o_m hw 18 rfl) (o_k15_7 l Z a0 hw ru r137 r158 h178 Y196) (g := (o_f19 m 161 pp start ending (-8 : Int32) kp r137 r158 (r137 + (1 : Int32)) [(.int r158), (.int r137), (.ref ru)])) rfl (by rw [hml]; rfl) rfl (argsL := [(.int r137), (.int r158)]) (rest := []) rfl (lenOf o_pd5 rfl) rfl (hb hby o_d7_161) (o_b rfl) (o_b rfl) (o_b rfl) (o_b rfl)
 obtain ⟨rfl, rfl, e207⟩ := hQ207
 rw [List.append_nil] at X207
 refine o_q T207 (o_f19 m 164 pp start ending (-8 : Int32) kp r137 r158 (r137 + (1 : Int32)) []) st207 ?_
 refine o_q T207 (o_f19 m 165 pp start ending (-8 : Int32) kp r137 r158 (r137 + (1 : Int32)) [(.ref pp)]) (fun _ k9 => XS.aloadN X207.here hx rfl (hb hby o_d7_164) rfl rfl k9) ?_
 refine o_q T207 (o_f19 m 167 pp start ending (-8 : Int32) kp r137 r158 (r137 + (1 : Int32)) [(.int r158), (.ref pp)]) (fun _ k9 => XS.iload X207.here hx rfl (hb hby o_d7_165) rfl k9) ?_
 have q208 : 1 ≤ tl158.toInt := by
  have r1 := rng32 tl158
  omega
 have q209 : tl158.toInt ≤ L.toInt := by
  have r1 := rng32 tl158
  have r2 := rng32 L
  omega
 have q210 : L.toInt ≤ 32 := by
  have r1 := rng32 L
  omega
 have q211 : 0 ≤ r158.toInt := by
  have r1 := rng32 r158
  omega
 have hP212 : o_Pr Z n0 pp rc ru wa tm fr tl158 la158 L (ch + (1 : Int64)) gb xs158 f178 (o_put rs (cn + 1) start ending (0 : Int64)) h178 := ⟨Y179, Y180, Y181, Y182, Y183, Y184, Y185, Y186, Y187, Y188, Y189, Y190, Y191, Y192, Y193, Y194, Y195, Y196, Y197, A178, Y199, nt159, wl159, gp159, gt159, gf159, gr159, gu159⟩
 obtain ⟨v213, T213, L213, hQ213, X213, st213⟩ := o_callP X207 hx hZ e207 hown (o_m hw 116 rfl) (o_m hw 117 rfl) (o_m hw 8 rfl) (o_m hw 118 rfl) (by decide) (a := pp) Y179 (o_m hw 119 rfl) (o_m hw 9 rfl) (o_merge l Z a0 hw n0 pp rc ru wa tm fr tl158 la158 L (ch + (1 : Int64)) gb xs158 f178 (o_put rs (cn + 1) start ending (0 : Int64)) r158 h178 hP212 q208 q209 q210 q211) (g := (o_f19 m 167 pp start ending (-8 : Int32) kp r137 r158 (r137 + (1 : Int32)) [(.int r158), (.ref pp)])) rfl (by rw [hml]; rfl) rfl (argsL := [(.int r158)]) (rest := []) rfl (lenOf o_pd3 rfl) rfl (hb hby o_d7_167) (o_b rfl) (o_b rfl) (o_b rfl) (o_b rfl)
 obtain ⟨h213, e213⟩ : ∃ z, T213.heap = z := ⟨_, rfl⟩
 rw [e213] at hQ213
 obtain ⟨tl213, xs213, fs213, rfl, N213, hR213, ma213, mb213, mc213, md213, me213⟩ := hQ213
 have N_213 := Fr.app N_178 N213
 obtain ⟨Ep214, Er214, Ew214, F214_cpus, F214_times, F214_free, F214_head, F214_tail, F214_lastAt, F214_runs, F214_firstKnown, F214_watcher, F214_watchedAs, F214_changes, F214_merged, F214_gaveBack, F214_recent, Fn214, At214, Af214, Ar214, nt214, wl214, gp214, gt214, gf214, gr214, gu214⟩ := hR213
 refine o_q T213 (o_f19 m 170 pp start ending (-8 : Int32) kp r137 r158 (r137 + (1 : Int32)) []) st213 ?_
 refine o_q T213 (o_f19 m 171 pp start ending (-8 : Int32) kp r137 r158 (r137 + (1 : Int32)) [(.ref pp)]) (fun _ k9 => XS.aloadN X213.here hx rfl (hb hby o_d7_170) rfl rfl k9) ?_
 refine o_q T213 (o_f19 m 173 pp start ending (-8 : Int32) kp r137 r158 (r137 + (1 : Int32)) [(.int r137), (.ref pp)]) (fun _ k9 => XS.iload X213.here hx rfl (hb hby o_d7_171) rfl k9) ?_
 have q229 : 1 ≤ tl213.toInt := by
  have r1 := rng32 tl213
  omega
 have q230 : tl213.toInt ≤ L.toInt := by
  have r1 := rng32 tl213
  have r2 := rng32 L
  omega
 have q231 : L.toInt ≤ 32 := by
  have r1 := rng32 L
  omega
 have q232 : 0 ≤ r137.toInt := by
  have r1 := rng32 r137
  omega
 have hP233 : o_Pr Z n0 pp rc ru wa tm fr tl213 la158 L (ch + (1 : Int64)) gb xs213 fs213 (o_put rs (cn + 1) start ending (0 : Int64)) h213 := ⟨Ep214, Er214, Ew214, F214_cpus, F214_times, F214_free, F214_head, F214_tail, F214_lastAt, F214_runs, F214_firstKnown, F214_watcher, F214_watchedAs, F214_changes, F214_merged, F214_gaveBack, F214_recent, Fn214, At214, Af214, Ar214, nt214, wl214, gp214, gt214, gf214, gr214, gu214⟩
 obtain ⟨v234, T234, L234, hQ234, X234, st234⟩ := o_callP X213 hx hZ e213 hown (o_m hw 116 rfl) (o_m hw 117 rfl) (o_m hw 8 rfl) (o_m hw 118 rfl) (by decide) (a := pp) Ep214 (o_m hw 119 rfl) (o_m hw 9 rfl) (o_merge l Z a0 hw n0 pp rc ru wa tm fr tl213 la158 L (ch + (1 : Int64)) gb xs213 fs213 (o_put rs (cn + 1) start ending (0 : Int64)) r137 h213 hP233 q229 q230 q231 q232) (g := (o_f19 m 173 pp start ending (-8 : Int32) kp r137 r158 (r137 + (1 : Int32)) [(.int r137), (.ref pp)])) rfl (by rw [hml]; rfl) rfl (argsL := [(.int r137)]) (rest := []) rfl (lenOf o_pd3 rfl) rfl (hb hby o_d7_173) (o_b rfl) (o_b rfl) (o_b rfl) (o_b rfl)
 obtain ⟨h234, e234⟩ : ∃ z, T234.heap = z := ⟨_, rfl⟩
 rw [e234] at hQ234
 obtain ⟨tl234, xs234, fs234, rfl, N234, hR234, ma234, mb234, mc234, md234, me234⟩ := hQ234
 have N_234 := Fr.app N_213 N234
 obtain ⟨Ep235, Er235, Ew235, F235_cpus, F235_times, F235_free, F235_head, F235_tail, F235_lastAt, F235_runs, F235_firstKnown, F235_watcher, F235_watchedAs, F235_changes, F235_merged, F235_gaveBack, F235_recent, Fn235, At235, Af235, Ar235, nt235, wl235, gp235, gt235, gf235, gr235, gu235⟩ := hR234
 refine o_q T234 (o_f19 m 176 pp start ending (-8 : Int32) kp r137 r158 (r137 + (1 : Int32)) []) st234 ?_
 have hP250 : o_Pr Z n0 pp rc ru wa tm fr tl234 la158 L (ch + (1 : Int64)) gb xs234 fs234 (o_put rs (cn + 1) start ending (0 : Int64)) h234 := ⟨Ep235, Er235, Ew235, F235_cpus, F235_times, F235_free, F235_head, F235_tail, F235_lastAt, F235_runs, F235_firstKnown, F235_watcher, F235_watchedAs, F235_changes, F235_merged, F235_gaveBack, F235_recent, Fn235, At235, Af235, Ar235, nt235, wl235, gp235, gt235, gf235, gr235, gu235⟩
 have n1251 : 1 ≤ tl158.toNatClampNeg := by omega
 have n2251 : 1 ≤ tl213.toNatClampNeg := by
  have r1 := rng32 tl213
  have n0 := o_nat (tl213) (by omega)
  omega
 have q252 : 1 ≤ tl234.toInt := by
  have r1 := rng32 tl234
  omega
 have q253 : tl234.toInt ≤ tl.toInt + 2 := by
  have r1 := rng32 tl234
  omega
 refine o_retV X234 hx hlk hret (hb hby o_d7_176) ?_ (o_b rfl) (o_b rfl)
 rw [e234]
 exact ⟨tm, fr, tl234, la158, xs234, fs234, rfl, N_234, hP250, q252, q253, (md234.trans (md213.trans (pf158.trans pf137))), (o_Smerge n2251 (o_Smerge n1251 SX mc213 me213) mc234 me234)⟩
set_option maxRecDepth 65536 in
set_option maxHeartbeats 40000000 in
theorem o_bookS_m8 (l : Launch) (Z : State) (a0 : Array Value) (hw : ∀ d ∈ tables_1, d.before a0 Z = true) (n0 : Nat) (pp rc ru wa tm fr : Addr) (tl la L : Int32) (ch gb : Int64) (xs : Nat → Int64) (fs : Nat → Int32) (rs : Nat → Int64) (start ending : Int64) (cn : Nat) (h0 : Heap) (hP : o_Pr Z n0 pp rc ru wa tm fr tl la L ch gb xs fs rs h0) (ht1 : tl.toInt = 1) (i4 : L.toInt = 4) (hse : start < ending) (hc : ch.toInt = (cn : Int)) (hc2 : cn ≤ 100) (hmi : xs 0 = start) (hma : ending = (9223372036854775807 : Int64)) (hf0 : (fs 0).toInt = 16) :
  o_C l (⟨o_n1, "book", "(JJI)V"⟩ : MethodName) o_y15 6 none (o_R 6 0 0 130) Z h0 #[(.ref pp), (.long start), (.long ending), (.int (8 : Int32))] (fun v h Ls => ∃ (tm' fr' : Addr) (tl' la' : Int32) (xs' : Nat → Int64) (fs' : Nat → Int32), v = none ∧ Fr n0 Ls ∧ o_Pr Z n0 pp rc ru wa tm' fr' tl' la' L (ch + (1 : Int64)) gb xs' fs' (o_put rs (cn + 1) start ending (0 : Int64)) h ∧ 1 ≤ tl'.toInt ∧ tl'.toInt ≤ tl.toInt + 2 ∧ xs' 0 = xs 0 ∧ o_S 8 8 tl'.toNatClampNeg xs' fs') := by
 refine o_body o_pn6 ?_
 intro p e s m below meth c s₁ hx hby hml hZ hown hnm hret hlk X0 e0
 refine o_cast (f' := (o_f24 m 0 pp start ending (8 : Int32) [])) (by first | (simp [entryFrame, mkF, argsToLocals, Value.category, maxLocals]; done) | rfl) ?_
 have Ep0 := hP.1
 refine o_q s₁ (o_f24 m 1 pp start ending (8 : Int32) [(.ref pp)]) (fun _ k9 => XS.aloadN X0.here hx rfl (hb hby o_d6_0) rfl rfl k9) ?_
 refine o_q s₁ (o_f24 m 2 pp start ending (8 : Int32) [(.long start), (.ref pp)]) (fun _ k9 => XS.lloadN X0.here hx rfl (hb hby o_d6_1) rfl k9) ?_
 refine o_q s₁ (o_f24 m 3 pp start ending (8 : Int32) [(.long ending), (.long start), (.ref pp)]) (fun _ k9 => XS.lloadN X0.here hx rfl (hb hby o_d6_2) rfl k9) ?_
 refine o_q s₁ (o_f24 m 5 pp start ending (8 : Int32) [(.int (8 : Int32)), (.long ending), (.long start), (.ref pp)]) (fun _ k9 => XS.iload X0.here hx rfl (hb hby o_d6_3) rfl k9) ?_
 refine o_q s₁ (o_f24 m 6 pp start ending (8 : Int32) [(.int (-8 : Int32)), (.long ending), (.long start), (.ref pp)]) (fun _ k9 => XS.ineg X0.here hx rfl (hb hby o_d6_5) rfl k9) ?_
 obtain ⟨v1, T1, L1, hQ1, X1, st1⟩ := o_callP X0 hx hZ e0 hown (o_m hw 57 rfl) (o_m hw 58 rfl) (o_m hw 8 rfl) (o_m hw 59 rfl) (by decide) (a := pp) Ep0 (o_m hw 60 rfl) (o_m hw 9 rfl) (o_addS_m8 l Z a0 hw n0 pp rc ru wa tm fr tl la L ch gb xs fs rs start ending cn h0 hP ht1 i4 hse hc hc2 hmi hma hf0) (g := (o_f24 m 6 pp start ending (8 : Int32) [(.int (-8 : Int32)), (.long ending), (.long start), (.ref pp)])) rfl (by rw [hml]; rfl) rfl (argsL := [(.long start), (.long ending), (.int (-8 : Int32))]) (rest := []) rfl (lenOf o_pd14 rfl) rfl (hb hby o_d6_6) (o_b rfl) (o_b rfl) (o_b rfl) (o_b rfl)
 obtain ⟨tmq, frq, tlq, laq, xsq, fsq, rfl, Nq, hRq, z1, z2, z3, z4⟩ := hQ1
 refine o_q T1 (o_f24 m 9 pp start ending (8 : Int32) []) st1 ?_
 exact o_retV X1 hx hlk hret (hb hby o_d6_9) ⟨tmq, frq, tlq, laq, xsq, fsq, rfl, Fr.app (Fr.nil _) Nq, hRq, z1, z2, z3, z4⟩ (o_b rfl) (o_b rfl)
theorem o_at_mono (v w : Int32) (h0 : 0 ≤ v.toInt) (h1 : v.toInt < w.toInt) (h2 : w.toInt ≤ 16) : o_at v < o_at w := by
 have k0 : (0 : Int32).toInt = 0 := by decide
 have k16 : (16 : Int32).toInt = 16 := by decide
 have k8 : (8 : Int32).toInt = 8 := by decide
 have m0 : (-9223372036854775808 : Int64).toInt = -9223372036854775808 := by decide
 have m1 : (9223372036854775807 : Int64).toInt = 9223372036854775807 := by decide
 have ev := c_isub v (8 : Int32)
 have ew := c_isub w (8 : Int32)
 have rv := rng32 (v - (8 : Int32))
 have rw' := rng32 (w - (8 : Int32))
 have iv := c_i2l (v - (8 : Int32))
 have iw := c_i2l (w - (8 : Int32))
 rw [k8] at ev ew
 have w0 : ¬ w = (0 : Int32) := fun q => by rw [q, k0] at h1; omega
 have v16 : ¬ v = (16 : Int32) := fun q => by rw [q, k16] at h1; omega
 unfold o_at
 rw [if_neg w0, if_neg v16, Int64.lt_iff_toInt_lt]
 by_cases a : v = (0 : Int32)
 ·rw [if_pos a]
  by_cases b : w = (16 : Int32)
  ·rw [if_pos b, m0, m1]; decide
  ·rw [if_neg b, m0, iw]; omega
 ·rw [if_neg a, iv]
  by_cases b : w = (16 : Int32)
  ·rw [if_pos b, m1]; omega
  ·rw [if_neg b, iw]; omega
theorem o_lohi (st : Int64) (i : Int32) : (0 ≤ (o_lo st i).toInt ∧ (o_lo st i).toInt ≤ 15) ∧ 0 ≤ (o_hi st i).toInt ∧ (o_hi st i).toInt ≤ 15 := by
 unfold o_lo o_hi
 refine ⟨?_, ?_⟩
 ·rw [c_mask _ (15 : Int32) 4 (by decide) (by decide)]; omega
 ·rw [c_mask _ (15 : Int32) 4 (by decide) (by decide)]; omega
theorem o_saen (st : Int64) (i : Int32) : o_sa st i < o_en st i := by
 obtain ⟨a, b⟩ := o_lohi st i
 unfold o_sa o_en
 generalize o_lo st i = u at *
 generalize o_hi st i = v at *
 have eu := c_iadd u (1 : Int32)
 have ev := c_iadd v (1 : Int32)
 have ru := rng32 (u + (1 : Int32))
 have rv := rng32 (v + (1 : Int32))
 rw [show (1 : Int32).toInt = 1 from by decide] at eu ev
 by_cases c : v < u
 ·have d := Int32.lt_iff_toInt_lt.mp c
  rw [if_pos c, if_neg (fun q => by have := Int32.lt_iff_toInt_lt.mp q; omega)]
  exact o_at_mono _ _ (by omega) (by omega) (by omega)
 ·have d := mt Int32.lt_iff_toInt_lt.mpr c
  rw [if_neg c]
  by_cases e : u < v
  ·have f := Int32.lt_iff_toInt_lt.mp e
   rw [if_pos e]
   exact o_at_mono _ _ (by omega) (by omega) (by omega)
  ·have f := mt Int32.lt_iff_toInt_lt.mpr e
   rw [if_neg e]
   exact o_at_mono _ _ (by omega) (by omega) (by omega)
theorem o_nmin (x : Int64) : ¬ x < (-9223372036854775808 : Int64) := fun q => by
 have a := Int64.lt_iff_toInt_lt.mp q
 rw [show (-9223372036854775808 : Int64).toInt = -9223372036854775808 from by decide] at a
 have := rng64 x
 omega
theorem o_d17_0 : decode method_9_code 0 = .ok (.lload_n 1, 1) := by decide +kernel
theorem o_d17_1 : decode method_9_code 1 = .ok (.iload 4, 2) := by decide +kernel
theorem o_d17_3 : decode method_9_code 3 = .ok (.invokestatic 69, 3) := by decide +kernel
theorem o_d17_6 : decode method_9_code 6 = .ok (.lstore 5, 2) := by decide +kernel
theorem o_d17_8 : decode method_9_code 8 = .ok (.lload_n 1, 1) := by decide +kernel
theorem o_d17_9 : decode method_9_code 9 = .ok (.iload 4, 2) := by decide +kernel
theorem o_d17_11 : decode method_9_code 11 = .ok (.invokestatic 73, 3) := by decide +kernel
theorem o_d17_14 : decode method_9_code 14 = .ok (.lstore 7, 2) := by decide +kernel
theorem o_d17_16 : decode method_9_code 16 = .ok (.iload_n 3, 1) := by decide +kernel
theorem o_d17_17 : decode method_9_code 17 = .ok (.iload 4, 2) := by decide +kernel
theorem o_d17_19 : decode method_9_code 19 = .ok (.invokestatic 37, 3) := by decide +kernel
theorem o_d17_22 : decode method_9_code 22 = .ok (.ifCond .eq 15, 3) := by decide +kernel
theorem o_d17_37 : decode method_9_code 37 = .ok (.aload_n 0, 1) := by decide +kernel
theorem o_d17_38 : decode method_9_code 38 = .ok (.lload 5, 2) := by decide +kernel
theorem o_d17_40 : decode method_9_code 40 = .ok (.lload 7, 2) := by decide +kernel
theorem o_d17_42 : decode method_9_code 42 = .ok (.iconst 1, 1) := by decide +kernel
theorem o_d17_43 : decode method_9_code 43 = .ok (.invokevirtual 27, 3) := by decide +kernel
theorem o_d17_46 : decode method_9_code 46 = .ok (.return_, 1) := by decide +kernel
theorem o_d17_25 : decode method_9_code 25 = .ok (.aload_n 0, 1) := by decide +kernel
theorem o_d17_26 : decode method_9_code 26 = .ok (.lload 5, 2) := by decide +kernel
theorem o_d17_28 : decode method_9_code 28 = .ok (.lload 7, 2) := by decide +kernel
theorem o_d17_30 : decode method_9_code 30 = .ok (.iconst 1, 1) := by decide +kernel
theorem o_d17_31 : decode method_9_code 31 = .ok (.invokevirtual 76, 3) := by decide +kernel
theorem o_d17_34 : decode method_9_code 34 = .ok (.goto 12, 3) := by decide +kernel
theorem o_pn17 : plainFor (⟨o_n5, "apply", "(Lcom/example/gapwright/gapwright/profile/CpuProfile;JII)V"⟩ : MethodName) = true := plainFor_of_name (by first | (simp [plainName, overriddenIn]; done) | decide +kernel)
set_option maxRecDepth 65536 in
set_option maxHeartbeats 40000000 in
theorem o_applyN (l : Launch) (Z : State) (a0 : Array Value) (hw : ∀ d ∈ tables_1, d.before a0 Z = true) (n0 : Nat) (pp rc ru wa tm fr : Addr) (tl la L : Int32) (ch gb : Int64) (xs : Nat → Int64) (fs : Nat → Int32) (rs : Nat → Int64) (st : Int64) (k i : Int32) (cn : Nat) (lo hi lo1 hi1 : Int) (h0 : Heap) (hP : o_Pr Z n0 pp rc ru wa tm fr tl la L ch gb xs fs rs h0) (i1 : 1 ≤ tl.toInt) (i2 : tl.toInt ≤ L.toInt) (i3 : L.toInt ≤ 32) (i4 : tl.toInt + 2 ≤ L.toInt) (hc : ch.toInt = (cn : Int)) (hc2 : cn ≤ 100) (Dm : o_D lo hi lo1 hi1 (-1)) (Dp : o_D lo hi lo1 hi1 1) (Sg : o_S lo hi tl.toNatClampNeg xs fs) (hz : xs 0 = (-9223372036854775808 : Int64)) :
  o_C l (⟨o_n5, "apply", "(Lcom/example/gapwright/gapwright/profile/CpuProfile;JII)V"⟩ : MethodName) method_9_code 9 none (o_R 7 0 0 160) Z h0 #[(.ref pp), (.long st), (.int k), (.int i)] (fun v h Ls => ∃ (tm' fr' : Addr) (tl' la' : Int32) (xs' : Nat → Int64) (fs' : Nat → Int32), v = none ∧ Fr n0 Ls ∧ o_Pr Z n0 pp rc ru wa tm' fr' tl' la' L (ch + (1 : Int64)) (if o_rl k i = (0 : Int32) then gb else (ch + (1 : Int64))) xs' fs' (o_put rs (cn + 1) (o_sa st i) (o_en st i) (if o_rl k i = (0 : Int32) then (0 : Int64) else (1 : Int64))) h ∧ 1 ≤ tl'.toInt ∧ tl'.toInt ≤ tl.toInt + 2 ∧ xs' 0 = xs 0 ∧ o_S lo1 hi1 tl'.toNatClampNeg xs' fs') := by
 refine o_body o_pn17 ?_
 intro p e s m below meth c s₁ hx hby hml hZ hown hnm hret hlk X0 e0
 refine o_cast (f' := (o_f30 m 0 pp st k i [])) (by first | (simp [entryFrame, mkF, argsToLocals, Value.category, maxLocals]; done) | rfl) ?_
 have Ep0 := hP.1
 refine o_q s₁ (o_f30 m 1 pp st k i [(.long st)]) (fun _ k9 => XS.lloadN X0.here hx rfl (hb hby o_d17_0) rfl k9) ?_
 refine o_q s₁ (o_f30 m 3 pp st k i [(.int i), (.long st)]) (fun _ k9 => XS.iload X0.here hx rfl (hb hby o_d17_1) rfl k9) ?_
 obtain ⟨v1, T1, L1, hQ1, X1, st1⟩ := o_callS X0 hx hZ e0 hown (o_m hw 124 rfl) (o_m hw 125 rfl) (by decide) (o_m hw 126 rfl) (o_m hw 122 rfl) (o_c_start l Z a0 hw st i h0) (g := (o_f30 m 3 pp st k i [(.int i), (.long st)])) rfl (by rw [hml]; rfl) rfl (argsL := [(.long st), (.int i)]) (rest := []) rfl (lenOf o_pd10 rfl) rfl (hb hby o_d17_3) (o_b rfl) (o_b rfl) (o_b rfl) (o_b rfl)
 obtain ⟨rfl, rfl, e1⟩ := hQ1
 rw [List.append_nil] at X1
 refine o_q T1 (o_f30 m 6 pp st k i [(.long (o_sa st i))]) st1 ?_
 refine o_q T1 (o_f31 m 8 pp st k i (o_sa st i) []) (fun _ k9 => XS.lstore X1.here hx rfl (hb hby o_d17_6) rfl (l' := (o_t31 pp st k i (o_sa st i))) rfl k9) ?_
 refine o_q T1 (o_f31 m 9 pp st k i (o_sa st i) [(.long st)]) (fun _ k9 => XS.lloadN X1.here hx rfl (hb hby o_d17_8) rfl k9) ?_
 refine o_q T1 (o_f31 m 11 pp st k i (o_sa st i) [(.int i), (.long st)]) (fun _ k9 => XS.iload X1.here hx rfl (hb hby o_d17_9) rfl k9) ?_
 obtain ⟨v2, T2, L2, hQ2, X2, st2⟩ := o_callS X1 hx hZ e1 hown (o_m hw 139 rfl) (o_m hw 140 rfl) (by decide) (o_m hw 141 rfl) (o_m hw 122 rfl) (o_c_end l Z a0 hw st i h0) (g := (o_f31 m 11 pp st k i (o_sa st i) [(.int i), (.long st)])) rfl (by rw [hml]; rfl) rfl (argsL := [(.long st), (.int i)]) (rest := []) rfl (lenOf o_pd10 rfl) rfl (hb hby o_d17_11) (o_b rfl) (o_b rfl) (o_b rfl) (o_b rfl)
 obtain ⟨rfl, rfl, e2⟩ := hQ2
 rw [List.append_nil] at X2
 refine o_q T2 (o_f31 m 14 pp st k i (o_sa st i) [(.long (o_en st i))]) st2 ?_
 refine o_q T2 (o_f32 m 16 pp st k i (o_sa st i) (o_en st i) []) (fun _ k9 => XS.lstore X2.here hx rfl (hb hby o_d17_14) rfl (l' := (o_t32 pp st k i (o_sa st i) (o_en st i))) rfl k9) ?_
 refine o_q T2 (o_f32 m 17 pp st k i (o_sa st i) (o_en st i) [(.int k)]) (fun _ k9 => XS.iloadN X2.here hx rfl (hb hby o_d17_16) rfl k9) ?_
 refine o_q T2 (o_f32 m 19 pp st k i (o_sa st i) (o_en st i) [(.int i), (.int k)]) (fun _ k9 => XS.iload X2.here hx rfl (hb hby o_d17_17) rfl k9) ?_
 obtain ⟨v3, T3, L3, hQ3, X3, st3⟩ := o_callS X2 hx hZ e2 hown (o_m hw 145 rfl) (o_m hw 146 rfl) (by decide) (o_m hw 147 rfl) (o_m hw 122 rfl) (o_c_released l Z a0 hw k i h0) (g := (o_f32 m 19 pp st k i (o_sa st i) (o_en st i) [(.int i), (.int k)])) rfl (by rw [hml]; rfl) rfl (argsL := [(.int k), (.int i)]) (rest := []) rfl (lenOf o_pd6 rfl) rfl (hb hby o_d17_19) (o_b rfl) (o_b rfl) (o_b rfl) (o_b rfl)
 obtain ⟨rfl, rfl, e3⟩ := hQ3
 rw [List.append_nil] at X3
 refine o_q T3 (o_f32 m 22 pp st k i (o_sa st i) (o_en st i) [(.int (o_rl k i))]) st3 ?_
 by_cases c0 : (o_rl k i) = (0 : Int32)
 ·refine o_fY 37 X3 hx hby o_d17_22 ((if0 _ _).trans (teq c0).1) ?_
  refine o_q T3 (o_f32 m 38 pp st k i (o_sa st i) (o_en st i) [(.ref pp)]) (fun _ k9 => XS.aloadN X3.here hx rfl (hb hby o_d17_37) rfl rfl k9) ?_
  refine o_q T3 (o_f32 m 40 pp st k i (o_sa st i) (o_en st i) [(.long (o_sa st i)), (.ref pp)]) (fun _ k9 => XS.lload X3.here hx rfl (hb hby o_d17_38) rfl k9) ?_
  refine o_q T3 (o_f32 m 42 pp st k i (o_sa st i) (o_en st i) [(.long (o_en st i)), (.long (o_sa st i)), (.ref pp)]) (fun _ k9 => XS.lload X3.here hx rfl (hb hby o_d17_40) rfl k9) ?_
  refine o_iC (1 : Int32) X3 hx hby o_d17_42 rfl ?_
  obtain ⟨v4, T4, L4, hQ4, X4, st4⟩ := o_callV X3 hx hZ e3 hown (o_m hw 52 rfl) (o_m hw 53 rfl) (o_m hw 55 rfl) (o_m hw 54 rfl) (by decide) (b := pp) Ep0 (o_m hw 56 rfl) (o_m hw 9 rfl) (o_bookN_m1 l Z a0 hw n0 pp rc ru wa tm fr tl la L ch gb xs fs rs (o_sa st i) (o_en st i) cn lo hi lo1 hi1 h0 hP i1 i2 i3 i4 (o_saen st i) hc hc2 Dm Sg (fun _ => by rw [hz]; exact o_nmin _)) (g := (o_f32 m 43 pp st k i (o_sa st i) (o_en st i) [(.int (1 : Int32)), (.long (o_en st i)), (.long (o_sa st i)), (.ref pp)])) rfl (by rw [hml]; rfl) rfl (argsL := [(.long (o_sa st i)), (.long (o_en st i)), (.int (1 : Int32))]) (rest := []) rfl (lenOf o_pd14 rfl) rfl (hb hby o_d17_43) (o_b rfl) (o_b rfl) (o_b rfl) (o_b rfl)
  obtain ⟨tmq, frq, tlq, laq, xsq, fsq, rfl, Nq, hRq, z1, z2, z3, z4⟩ := hQ4
  refine o_q T4 (o_f32 m 46 pp st k i (o_sa st i) (o_en st i) []) st4 ?_
  exact o_retV X4 hx hlk hret (hb hby o_d17_46) ⟨tmq, frq, tlq, laq, xsq, fsq, rfl, Fr.app (Fr.nil _) Nq, (by simp only [if_pos c0]; exact hRq), z1, z2, z3, z4⟩ (o_b rfl) (o_b rfl)
 ·refine o_fN X3 hx hby o_d17_22 ((if0 _ _).trans (feq c0).1) ?_
  refine o_q T3 (o_f32 m 26 pp st k i (o_sa st i) (o_en st i) [(.ref pp)]) (fun _ k9 => XS.aloadN X3.here hx rfl (hb hby o_d17_25) rfl rfl k9) ?_
  refine o_q T3 (o_f32 m 28 pp st k i (o_sa st i) (o_en st i) [(.long (o_sa st i)), (.ref pp)]) (fun _ k9 => XS.lload X3.here hx rfl (hb hby o_d17_26) rfl k9) ?_
  refine o_q T3 (o_f32 m 30 pp st k i (o_sa st i) (o_en st i) [(.long (o_en st i)), (.long (o_sa st i)), (.ref pp)]) (fun _ k9 => XS.lload X3.here hx rfl (hb hby o_d17_28) rfl k9) ?_
  refine o_iC (1 : Int32) X3 hx hby o_d17_30 rfl ?_
  obtain ⟨v5, T5, L5, hQ5, X5, st5⟩ := o_callV X3 hx hZ e3 hown (o_m hw 180 rfl) (o_m hw 181 rfl) (o_m hw 183 rfl) (o_m hw 182 rfl) (by decide) (b := pp) Ep0 (o_m hw 184 rfl) (o_m hw 9 rfl) (o_releaseN_p1 l Z a0 hw n0 pp rc ru wa tm fr tl la L ch gb xs fs rs (o_sa st i) (o_en st i) cn lo hi lo1 hi1 h0 hP i1 i2 i3 i4 (o_saen st i) hc hc2 Dp Sg (fun _ => by rw [hz]; exact o_nmin _)) (g := (o_f32 m 31 pp st k i (o_sa st i) (o_en st i) [(.int (1 : Int32)), (.long (o_en st i)), (.long (o_sa st i)), (.ref pp)])) rfl (by rw [hml]; rfl) rfl (argsL := [(.long (o_sa st i)), (.long (o_en st i)), (.int (1 : Int32))]) (rest := []) rfl (lenOf o_pd14 rfl) rfl (hb hby o_d17_31) (o_b rfl) (o_b rfl) (o_b rfl) (o_b rfl)
  obtain ⟨tmq, frq, tlq, laq, xsq, fsq, rfl, Nq, hRq, z1, z2, z3, z4⟩ := hQ5
  refine o_q T5 (o_f32 m 34 pp st k i (o_sa st i) (o_en st i) []) st5 ?_
  refine o_go 46 X5 hx hby o_d17_34 ?_
  exact o_retV X5 hx hlk hret (hb hby o_d17_46) ⟨tmq, frq, tlq, laq, xsq, fsq, rfl, Fr.app (Fr.nil _) Nq, (by simp only [if_neg c0]; exact hRq), z1, z2, z3, z4⟩ (o_b rfl) (o_b rfl)
set_option maxRecDepth 65536 in
set_option maxHeartbeats 40000000 in
theorem o_applyG (l : Launch) (Z : State) (a0 : Array Value) (hw : ∀ d ∈ tables_1, d.before a0 Z = true) (n0 : Nat) (pp rc ru wa tm fr : Addr) (tl la L : Int32) (ch gb : Int64) (xs : Nat → Int64) (fs : Nat → Int32) (rs : Nat → Int64) (L2 : Int32) (st : Int64) (k i : Int32) (cn : Nat) (lo hi lo1 hi1 : Int) (h0 : Heap) (hP : o_Pr Z n0 pp rc ru wa tm fr tl la L ch gb xs fs rs h0) (i1 : 1 ≤ tl.toInt) (i2 : tl.toInt ≤ L.toInt) (i3 : L2.toInt ≤ 32) (i4 : tl.toInt + 2 ≤ L2.toInt) (lz : L2 = ((2 : Int32) * L)) (lq : L2.toInt = 2 * L.toInt) (lh : (L / (2 : Int32)).toInt ≤ L.toInt) (lv : 4 ≤ L.toInt) (lw : L.toInt ≤ 16) (i5 : L.toInt < tl.toInt + 2) (hc : ch.toInt = (cn : Int)) (hc2 : cn ≤ 100) (Dm : o_D lo hi lo1 hi1 (-1)) (Dp : o_D lo hi lo1 hi1 1) (Sg : o_S lo hi tl.toNatClampNeg xs fs) (hz : xs 0 = (-9223372036854775808 : Int64)) :
  o_C l (⟨o_n5, "apply", "(Lcom/example/gapwright/gapwright/profile/CpuProfile;JII)V"⟩ : MethodName) method_9_code 9 none (o_R 7 2 64 160) Z h0 #[(.ref pp), (.long st), (.int k), (.int i)] (fun v h Ls => ∃ (tm' fr' : Addr) (tl' la' : Int32) (xs' : Nat → Int64) (fs' : Nat → Int32), v = none ∧ Fr n0 Ls ∧ o_Pr Z n0 pp rc ru wa tm' fr' tl' la' L2 (ch + (1 : Int64)) (if o_rl k i = (0 : Int32) then gb else (ch + (1 : Int64))) xs' fs' (o_put rs (cn + 1) (o_sa st i) (o_en st i) (if o_rl k i = (0 : Int32) then (0 : Int64) else (1 : Int64))) h ∧ 1 ≤ tl'.toInt ∧ tl'.toInt ≤ tl.toInt + 2 ∧ xs' 0 = xs 0 ∧ o_S lo1 hi1 tl'.toNatClampNeg xs' fs') := by
 refine o_body o_pn17 ?_
 intro p e s m below meth c s₁ hx hby hml hZ hown hnm hret hlk X0 e0
 refine o_cast (f' := (o_f30 m 0 pp st k i [])) (by first | (simp [entryFrame, mkF, argsToLocals, Value.category, maxLocals]; done) | rfl) ?_
 have Ep0 := hP.1
 refine o_q s₁ (o_f30 m 1 pp st k i [(.long st)]) (fun _ k9 => XS.lloadN X0.here hx rfl (hb hby o_d17_0) rfl k9) ?_
 refine o_q s₁ (o_f30 m 3 pp st k i [(.int i), (.long st)]) (fun _ k9 => XS.iload X0.here hx rfl (hb hby o_d17_1) rfl k9) ?_
 obtain ⟨v1, T1, L1, hQ1, X1, st1⟩ := o_callS X0 hx hZ e0 hown (o_m hw 124 rfl) (o_m hw 125 rfl) (by decide) (o_m hw 126 rfl) (o_m hw 122 rfl) (o_c_start l Z a0 hw st i h0) (g := (o_f30 m 3 pp st k i [(.int i), (.long st)])) rfl (by rw [hml]; rfl) rfl (argsL := [(.long st), (.int i)]) (rest := []) rfl (lenOf o_pd10 rfl) rfl (hb hby o_d17_3) (o_b rfl) (o_b rfl) (o_b rfl) (o_b rfl)
 obtain ⟨rfl, rfl, e1⟩ := hQ1
 rw [List.append_nil] at X1
 refine o_q T1 (o_f30 m 6 pp st k i [(.long (o_sa st i))]) st1 ?_
 refine o_q T1 (o_f31 m 8 pp st k i (o_sa st i) []) (fun _ k9 => XS.lstore X1.here hx rfl (hb hby o_d17_6) rfl (l' := (o_t31 pp st k i (o_sa st i))) rfl k9) ?_
 refine o_q T1 (o_f31 m 9 pp st k i (o_sa st i) [(.long st)]) (fun _ k9 => XS.lloadN X1.here hx rfl (hb hby o_d17_8) rfl k9) ?_
 refine o_q T1 (o_f31 m 11 pp st k i (o_sa st i) [(.int i), (.long st)]) (fun _ k9 => XS.iload X1.here hx rfl (hb hby o_d17_9) rfl k9) ?_
 obtain ⟨v2, T2, L2, hQ2, X2, st2⟩ := o_callS X1 hx hZ e1 hown (o_m hw 139 rfl) (o_m hw 140 rfl) (by decide) (o_m hw 141 rfl) (o_m hw 122 rfl) (o_c_end l Z a0 hw st i h0) (g := (o_f31 m 11 pp st k i (o_sa st i) [(.int i), (.long st)])) rfl (by rw [hml]; rfl) rfl (argsL := [(.long st), (.int i)]) (rest := []) rfl (lenOf o_pd10 rfl) rfl (hb hby o_d17_11) (o_b rfl) (o_b rfl) (o_b rfl) (o_b rfl)
 obtain ⟨rfl, rfl, e2⟩ := hQ2
 rw [List.append_nil] at X2
 refine o_q T2 (o_f31 m 14 pp st k i (o_sa st i) [(.long (o_en st i))]) st2 ?_
 refine o_q T2 (o_f32 m 16 pp st k i (o_sa st i) (o_en st i) []) (fun _ k9 => XS.lstore X2.here hx rfl (hb hby o_d17_14) rfl (l' := (o_t32 pp st k i (o_sa st i) (o_en st i))) rfl k9) ?_
 refine o_q T2 (o_f32 m 17 pp st k i (o_sa st i) (o_en st i) [(.int k)]) (fun _ k9 => XS.iloadN X2.here hx rfl (hb hby o_d17_16) rfl k9) ?_
 refine o_q T2 (o_f32 m 19 pp st k i (o_sa st i) (o_en st i) [(.int i), (.int k)]) (fun _ k9 => XS.iload X2.here hx rfl (hb hby o_d17_17) rfl k9) ?_
 obtain ⟨v3, T3, L3, hQ3, X3, st3⟩ := o_callS X2 hx hZ e2 hown (o_m hw 145 rfl) (o_m hw 146 rfl) (by decide) (o_m hw 147 rfl) (o_m hw 122 rfl) (o_c_released l Z a0 hw k i h0) (g := (o_f32 m 19 pp st k i (o_sa st i) (o_en st i) [(.int i), (.int k)])) rfl (by rw [hml]; rfl) rfl (argsL := [(.int k), (.int i)]) (rest := []) rfl (lenOf o_pd6 rfl) rfl (hb hby o_d17_19) (o_b rfl) (o_b rfl) (o_b rfl) (o_b rfl)
 obtain ⟨rfl, rfl, e3⟩ := hQ3
 rw [List.append_nil] at X3
 refine o_q T3 (o_f32 m 22 pp st k i (o_sa st i) (o_en st i) [(.int (o_rl k i))]) st3 ?_
 by_cases c0 : (o_rl k i) = (0 : Int32)
 ·refine o_fY 37 X3 hx hby o_d17_22 ((if0 _ _).trans (teq c0).1) ?_
  refine o_q T3 (o_f32 m 38 pp st k i (o_sa st i) (o_en st i) [(.ref pp)]) (fun _ k9 => XS.aloadN X3.here hx rfl (hb hby o_d17_37) rfl rfl k9) ?_
  refine o_q T3 (o_f32 m 40 pp st k i (o_sa st i) (o_en st i) [(.long (o_sa st i)), (.ref pp)]) (fun _ k9 => XS.lload X3.here hx rfl (hb hby o_d17_38) rfl k9) ?_
  refine o_q T3 (o_f32 m 42 pp st k i (o_sa st i) (o_en st i) [(.long (o_en st i)), (.long (o_sa st i)), (.ref pp)]) (fun _ k9 => XS.lload X3.here hx rfl (hb hby o_d17_40) rfl k9) ?_
  refine o_iC (1 : Int32) X3 hx hby o_d17_42 rfl ?_
  obtain ⟨v4, T4, L4, hQ4, X4, st4⟩ := o_callV X3 hx hZ e3 hown (o_m hw 52 rfl) (o_m hw 53 rfl) (o_m hw 55 rfl) (o_m hw 54 rfl) (by decide) (b := pp) Ep0 (o_m hw 56 rfl) (o_m hw 9 rfl) (o_bookG_m1 l Z a0 hw n0 pp rc ru wa tm fr tl la L ch gb xs fs rs L2 (o_sa st i) (o_en st i) cn lo hi lo1 hi1 h0 hP i1 i2 i3 i4 lz lq lh lv lw i5 (o_saen st i) hc hc2 Dm Sg (fun _ => by rw [hz]; exact o_nmin _)) (g := (o_f32 m 43 pp st k i (o_sa st i) (o_en st i) [(.int (1 : Int32)), (.long (o_en st i)), (.long (o_sa st i)), (.ref pp)])) rfl (by rw [hml]; rfl) rfl (argsL := [(.long (o_sa st i)), (.long (o_en st i)), (.int (1 : Int32))]) (rest := []) rfl (lenOf o_pd14 rfl) rfl (hb hby o_d17_43) (o_b rfl) (o_b rfl) (o_b rfl) (o_b rfl)
  obtain ⟨tmq, frq, tlq, laq, xsq, fsq, rfl, Nq, hRq, z1, z2, z3, z4⟩ := hQ4
  refine o_q T4 (o_f32 m 46 pp st k i (o_sa st i) (o_en st i) []) st4 ?_
  exact o_retV X4 hx hlk hret (hb hby o_d17_46) ⟨tmq, frq, tlq, laq, xsq, fsq, rfl, Fr.app (Fr.nil _) Nq, (by simp only [if_pos c0]; exact hRq), z1, z2, z3, z4⟩ (o_b rfl) (o_b rfl)
 ·refine o_fN X3 hx hby o_d17_22 ((if0 _ _).trans (feq c0).1) ?_
  refine o_q T3 (o_f32 m 26 pp st k i (o_sa st i) (o_en st i) [(.ref pp)]) (fun _ k9 => XS.aloadN X3.here hx rfl (hb hby o_d17_25) rfl rfl k9) ?_
  refine o_q T3 (o_f32 m 28 pp st k i (o_sa st i) (o_en st i) [(.long (o_sa st i)), (.ref pp)]) (fun _ k9 => XS.lload X3.here hx rfl (hb hby o_d17_26) rfl k9) ?_
  refine o_q T3 (o_f32 m 30 pp st k i (o_sa st i) (o_en st i) [(.long (o_en st i)), (.long (o_sa st i)), (.ref pp)]) (fun _ k9 => XS.lload X3.here hx rfl (hb hby o_d17_28) rfl k9) ?_
  refine o_iC (1 : Int32) X3 hx hby o_d17_30 rfl ?_
  obtain ⟨v5, T5, L5, hQ5, X5, st5⟩ := o_callV X3 hx hZ e3 hown (o_m hw 180 rfl) (o_m hw 181 rfl) (o_m hw 183 rfl) (o_m hw 182 rfl) (by decide) (b := pp) Ep0 (o_m hw 184 rfl) (o_m hw 9 rfl) (o_releaseG_p1 l Z a0 hw n0 pp rc ru wa tm fr tl la L ch gb xs fs rs L2 (o_sa st i) (o_en st i) cn lo hi lo1 hi1 h0 hP i1 i2 i3 i4 lz lq lh lv lw i5 (o_saen st i) hc hc2 Dp Sg (fun _ => by rw [hz]; exact o_nmin _)) (g := (o_f32 m 31 pp st k i (o_sa st i) (o_en st i) [(.int (1 : Int32)), (.long (o_en st i)), (.long (o_sa st i)), (.ref pp)])) rfl (by rw [hml]; rfl) rfl (argsL := [(.long (o_sa st i)), (.long (o_en st i)), (.int (1 : Int32))]) (rest := []) rfl (lenOf o_pd14 rfl) rfl (hb hby o_d17_31) (o_b rfl) (o_b rfl) (o_b rfl) (o_b rfl)
  obtain ⟨tmq, frq, tlq, laq, xsq, fsq, rfl, Nq, hRq, z1, z2, z3, z4⟩ := hQ5
  refine o_q T5 (o_f32 m 34 pp st k i (o_sa st i) (o_en st i) []) st5 ?_
  refine o_go 46 X5 hx hby o_d17_34 ?_
  exact o_retV X5 hx hlk hret (hb hby o_d17_46) ⟨tmq, frq, tlq, laq, xsq, fsq, rfl, Fr.app (Fr.nil _) Nq, (by simp only [if_neg c0]; exact hRq), z1, z2, z3, z4⟩ (o_b rfl) (o_b rfl)
abbrev o_cA (rs : Nat → Int64) (frm : Int64) (c : Nat) : Prop := rs (3 * (c % 8) + 2) = (1 : Int64) ∧ rs (3 * (c % 8)) < frm
abbrev o_cB (rs : Nat → Int64) (frm to_ : Int64) (c : Nat) : Prop := ¬ rs (3 * (c % 8) + 2) = (1 : Int64) ∧ rs (3 * (c % 8)) < to_ ∧ frm < rs (3 * (c % 8) + 1)
def o_sc (rs : Nat → Int64) (frm to_ : Int64) : Nat → Nat → Int32 → Int32
 | _, 0, acc => acc
 | c, k + 1, acc => if o_cA rs frm c then 2 else o_sc rs frm to_ (c + 1) k (if o_cB rs frm to_ c then 1 else acc)
def o_cs (rs : Nat → Int64) (gb frm to_ : Int64) (cn sn : Nat) (since : Int64) : Int32 :=
 if sn = cn then 0 else if 8 < cn - sn then (if since < gb then 2 else 1) else o_sc rs frm to_ (sn + 1) (cn - sn) 0
theorem o_sc2 (rs : Nat → Int64) (frm to_ : Int64) : ∀ (k c : Nat) (acc : Int32) (d : Nat), c ≤ d → d < c + k → o_cA rs frm d → o_sc rs frm to_ c k acc = 2
 | 0, c, acc, d, h1, h2, _ => by omega
 | k + 1, c, acc, d, h1, h2, h => by
  rw [o_sc]
  by_cases q : o_cA rs frm c
  ·rw [if_pos q]
  ·rw [if_neg q]
   refine o_sc2 rs frm to_ k (c + 1) _ d ?_ (by omega) h
   rcases Nat.lt_or_ge c d with z | z
   ·exact z
   ·exact absurd ((show d = c by omega) ▸ h) q
theorem o_sc1 (rs : Nat → Int64) (frm to_ : Int64) : ∀ (k c : Nat) (acc : Int32), (∀ d, c ≤ d → d < c + k → ¬ o_cA rs frm d) → (acc = 1 ∨ ∃ d, c ≤ d ∧ d < c + k ∧ o_cB rs frm to_ d) → o_sc rs frm to_ c k acc = 1
 | 0, c, acc, _, h => by
  rw [o_sc]
  rcases h with h | ⟨d, a, b, _⟩
  ·exact h
  ·omega
 | k + 1, c, acc, hn, h => by
  rw [o_sc, if_neg (hn c (Nat.le_refl _) (by omega))]
  refine o_sc1 rs frm to_ k (c + 1) _ (fun d a b => hn d (by omega) (by omega)) ?_
  by_cases q : o_cB rs frm to_ c
  ·rw [if_pos q]; exact Or.inl rfl
  ·rw [if_neg q]
   rcases h with h | ⟨d, a, b, e⟩
   ·exact Or.inl h
   ·refine Or.inr ⟨d, ?_, by omega, e⟩
    rcases Nat.lt_or_ge c d with z | z
    ·exact z
    ·exact absurd ((show d = c by omega) ▸ e) q
theorem o_sc0 (rs : Nat → Int64) (frm to_ : Int64) : ∀ (k c : Nat) (acc : Int32), (∀ d, c ≤ d → d < c + k → ¬ o_cA rs frm d) → (∀ d, c ≤ d → d < c + k → ¬ o_cB rs frm to_ d) → o_sc rs frm to_ c k acc = acc
 | 0, c, acc, _, _ => by rw [o_sc]
 | k + 1, c, acc, hn, hb => by
  rw [o_sc, if_neg (hn c (Nat.le_refl _) (by omega)), if_neg (hb c (Nat.le_refl _) (by omega))]
  exact o_sc0 rs frm to_ k (c + 1) acc (fun d a b => hn d (by omega) (by omega)) (fun d a b => hb d (by omega) (by omega))
theorem o_d31_58 : decode o_y19 58 = .ok (.lload 8, 2) := by decide +kernel
theorem o_d31_60 : decode o_y19 60 = .ok (.aload_n 0, 1) := by decide +kernel
theorem o_d31_61 : decode o_y19 61 = .ok (.getfield 156, 3) := by decide +kernel
theorem o_d31_64 : decode o_y19 64 = .ok (.lcmp, 1) := by decide +kernel
theorem o_d31_65 : decode o_y19 65 = .ok (.ifCond .gt 81, 3) := by decide +kernel
theorem o_d31_146 : decode o_y19 146 = .ok (.iload 7, 2) := by decide +kernel
theorem o_d31_148 : decode o_y19 148 = .ok (.ireturn, 1) := by decide +kernel
theorem o_d31_68 : decode o_y19 68 = .ok (.iconst 3, 1) := by decide +kernel
theorem o_d31_69 : decode o_y19 69 = .ok (.lload 8, 2) := by decide +kernel
theorem o_d31_71 : decode o_y19 71 = .ok (.ldc2_w 166, 3) := by decide +kernel
theorem o_d31_74 : decode o_y19 74 = .ok (.lrem, 1) := by decide +kernel
theorem o_d31_75 : decode o_y19 75 = .ok (.l2i, 1) := by decide +kernel
theorem o_d31_76 : decode o_y19 76 = .ok (.imul, 1) := by decide +kernel
theorem o_d31_77 : decode o_y19 77 = .ok (.istore 10, 2) := by decide +kernel
theorem o_d31_79 : decode o_y19 79 = .ok (.aload_n 0, 1) := by decide +kernel
theorem o_d31_80 : decode o_y19 80 = .ok (.getfield 30, 3) := by decide +kernel
theorem o_d31_83 : decode o_y19 83 = .ok (.iload 10, 2) := by decide +kernel
theorem o_d31_85 : decode o_y19 85 = .ok (.iconst 2, 1) := by decide +kernel
theorem o_d31_86 : decode o_y19 86 = .ok (.iadd, 1) := by decide +kernel
theorem o_d31_87 : decode o_y19 87 = .ok (.laload, 1) := by decide +kernel
theorem o_d31_88 : decode o_y19 88 = .ok (.lconst 1, 1) := by decide +kernel
theorem o_d31_89 : decode o_y19 89 = .ok (.lcmp, 1) := by decide +kernel
theorem o_d31_90 : decode o_y19 90 = .ok (.ifCond .ne 17, 3) := by decide +kernel
theorem o_d31_93 : decode o_y19 93 = .ok (.aload_n 0, 1) := by decide +kernel
theorem o_d31_94 : decode o_y19 94 = .ok (.getfield 30, 3) := by decide +kernel
theorem o_d31_97 : decode o_y19 97 = .ok (.iload 10, 2) := by decide +kernel
theorem o_d31_99 : decode o_y19 99 = .ok (.laload, 1) := by decide +kernel
theorem o_d31_100 : decode o_y19 100 = .ok (.lload_n 3, 1) := by decide +kernel
theorem o_d31_101 : decode o_y19 101 = .ok (.lcmp, 1) := by decide +kernel
theorem o_d31_102 : decode o_y19 102 = .ok (.ifCond .ge 35, 3) := by decide +kernel
theorem o_d31_105 : decode o_y19 105 = .ok (.iconst 2, 1) := by decide +kernel
theorem o_d31_106 : decode o_y19 106 = .ok (.ireturn, 1) := by decide +kernel
theorem o_d31_137 : decode o_y19 137 = .ok (.lload 8, 2) := by decide +kernel
theorem o_d31_139 : decode o_y19 139 = .ok (.lconst 1, 1) := by decide +kernel
theorem o_d31_140 : decode o_y19 140 = .ok (.ladd, 1) := by decide +kernel
theorem o_d31_141 : decode o_y19 141 = .ok (.lstore 8, 2) := by decide +kernel
theorem o_d31_143 : decode o_y19 143 = .ok (.goto (-85), 3) := by decide +kernel
theorem o_d31_107 : decode o_y19 107 = .ok (.aload_n 0, 1) := by decide +kernel
theorem o_d31_108 : decode o_y19 108 = .ok (.getfield 30, 3) := by decide +kernel
theorem o_d31_111 : decode o_y19 111 = .ok (.iload 10, 2) := by decide +kernel
theorem o_d31_113 : decode o_y19 113 = .ok (.laload, 1) := by decide +kernel
theorem o_d31_114 : decode o_y19 114 = .ok (.lload 5, 2) := by decide +kernel
theorem o_d31_116 : decode o_y19 116 = .ok (.lcmp, 1) := by decide +kernel
theorem o_d31_117 : decode o_y19 117 = .ok (.ifCond .ge 20, 3) := by decide +kernel
theorem o_d31_120 : decode o_y19 120 = .ok (.aload_n 0, 1) := by decide +kernel
theorem o_d31_121 : decode o_y19 121 = .ok (.getfield 30, 3) := by decide +kernel
theorem o_d31_124 : decode o_y19 124 = .ok (.iload 10, 2) := by decide +kernel
theorem o_d31_126 : decode o_y19 126 = .ok (.iconst 1, 1) := by decide +kernel
theorem o_d31_127 : decode o_y19 127 = .ok (.iadd, 1) := by decide +kernel
theorem o_d31_128 : decode o_y19 128 = .ok (.laload, 1) := by decide +kernel
theorem o_d31_129 : decode o_y19 129 = .ok (.lload_n 3, 1) := by decide +kernel
theorem o_d31_130 : decode o_y19 130 = .ok (.lcmp, 1) := by decide +kernel
theorem o_d31_131 : decode o_y19 131 = .ok (.ifCond .le 6, 3) := by decide +kernel
theorem o_d31_134 : decode o_y19 134 = .ok (.iconst 1, 1) := by decide +kernel
theorem o_d31_135 : decode o_y19 135 = .ok (.istore 7, 2) := by decide +kernel
set_option maxRecDepth 65536 in
set_option maxHeartbeats 40000000 in
theorem o_since_loop {p : Program} {l : Launch} {e : Env} {s : State} {m : MethodId} {below : List Frame} {meth : Method} {c : Code} (Z : State) (a0 : Array Value) (hw : ∀ d ∈ tables_1, d.before a0 Z = true) (n0 : Nat) (pp rc ru wa tm fr : Addr) (tl la L : Int32) (ch gb : Int64) (xs : Nat → Int64) (fs : Nat → Int32) (rs : Nat → Int64) (since frmL toL : Int64) (cn sn : Nat) (h0 : Heap) (hP : o_Pr Z n0 pp rc ru wa tm fr tl la L ch gb xs fs rs h0) (hc : ch.toInt = (cn : Int)) (hs : since.toInt = (sn : Int)) (h1 : sn ≤ cn) (h2 : cn ≤ 50)
  (hx : p.tables.exec = Jvm.exec) (hby : c.code = o_y19) (hml : c.maxLocals = 11) (hZ : Z.Warmed39 s.vm) (hown : s.vm.findClass o_n1 = some m.cls) (hret : meth.sig.returnType = some .int) (hlk : meth.locks = false) :
  ∀ (k : Nat) (cv : Int64) (cN : Nat) (acc v10 : Int32) {T : State} (X0 : Stand p l e (o_R 0 0 0 0) s m #[(.ref pp), (.long since), (.long frmL), (.long toL)] below meth c T [] 0 0) (e0 : T.heap = h0), cv.toInt = (cN : Int) → cN + k = cn + 1 → o_G p e below s (o_P (some (.int (o_sc rs frmL toL cN k acc))) h0) 0 0 T (o_f33 m 58 pp since frmL toL acc cv v10 []) := by
 intro k
 induction k with
 | zero =>
 intro cv cN acc v10 T X0 e0 hcv hk
 obtain ⟨Ep1, Er1, Ew1, F1_cpus, F1_times, F1_free, F1_head, F1_tail, F1_lastAt, F1_runs, F1_firstKnown, F1_watcher, F1_watchedAs, F1_changes, F1_merged, F1_gaveBack, F1_recent, Fn1, At1, Af1, Ar1, nt1, wl1, gp1, gt1, gf1, gr1, gu1⟩ := hP
 have ne2 : o_ne pp ru := Ep1.ne Er1 (by decide)
 have ne3 : o_ne pp tm := At1.neExa Ep1 (o_m hw 8 rfl)
 have ne4 : o_ne ru tm := At1.neExa Er1 (o_m hw 17 rfl)
 have ne5 : o_ne pp fr := Af1.neExa Ep1 (o_m hw 8 rfl)
 have ne6 : o_ne ru fr := Af1.neExa Er1 (o_m hw 17 rfl)
 have ne7 : o_ne pp rc := Ar1.neExa Ep1 (o_m hw 8 rfl)
 have ne8 : o_ne ru rc := Ar1.neExa Er1 (o_m hw 17 rfl)
 have ne9 : o_ne wa pp := Nat.ne_of_lt (Nat.lt_of_lt_of_le wl1 gp1)
 have ne10 : o_ne wa tm := Nat.ne_of_lt (Nat.lt_of_lt_of_le wl1 gt1)
 have ne11 : o_ne wa fr := Nat.ne_of_lt (Nat.lt_of_lt_of_le wl1 gf1)
 have ne12 : o_ne wa rc := Nat.ne_of_lt (Nat.lt_of_lt_of_le wl1 gr1)
 have ne13 : o_ne wa ru := Nat.ne_of_lt (Nat.lt_of_lt_of_le wl1 gu1)
 have ne14 : o_ne tm fr := At1.ne Af1 (by intro q; cases q)
 have ne15 : o_ne fr rc := Af1.ne Ar1 (by intro q; cases q)
 refine o_q T (o_f33 m 60 pp since frmL toL acc cv v10 [(.long cv)]) (fun _ k9 => XS.lload X0.here hx rfl (hb hby o_d31_58) rfl k9) ?_
 refine o_q T (o_f33 m 61 pp since frmL toL acc cv v10 [(.ref pp), (.long cv)]) (fun _ k9 => XS.aloadN X0.here hx rfl (hb hby o_d31_60) rfl rfl k9) ?_
 refine o_gF X0 hx hZ e0 hby hown (o_m hw 79 rfl) F1_changes o_d31_61 fun T16 X16 e16 => ?_
 refine o_q T16 (o_f33 m 65 pp since frmL toL acc cv v10 [(.int (lcmpW cv ch))]) (fun _ k9 => XS.lcmp X16.here hx rfl (hb hby o_d31_64) rfl k9) ?_
 refine o_fY 146 X16 hx hby o_d31_65 ((if0 _ _).trans (tlt ((lw_gt _ _).mpr (Int64.lt_iff_toInt_lt.mpr (by omega)))).2.2.1) ?_
 refine o_q T16 (o_f33 m 148 pp since frmL toL acc cv v10 [(.int acc)]) (fun _ k9 => XS.iload X16.here hx rfl (hb hby o_d31_146) rfl k9) ?_
 exact o_retI X16 hx hlk hret (hb hby o_d31_148) ⟨rfl, rfl, e16⟩ (by decide) (by decide)
 | succ k ih =>
 intro cv cN acc v10 T X0 e0 hcv hk
 obtain ⟨Ep1, Er1, Ew1, F1_cpus, F1_times, F1_free, F1_head, F1_tail, F1_lastAt, F1_runs, F1_firstKnown, F1_watcher, F1_watchedAs, F1_changes, F1_merged, F1_gaveBack, F1_recent, Fn1, At1, Af1, Ar1, nt1, wl1, gp1, gt1, gf1, gr1, gu1⟩ := hP
 have ne2 : o_ne pp ru := Ep1.ne Er1 (by decide)
 have ne3 : o_ne pp tm := At1.neExa Ep1 (o_m hw 8 rfl)
 have ne4 : o_ne ru tm := At1.neExa Er1 (o_m hw 17 rfl)
 have ne5 : o_ne pp fr := Af1.neExa Ep1 (o_m hw 8 rfl)
 have ne6 : o_ne ru fr := Af1.neExa Er1 (o_m hw 17 rfl)
 have ne7 : o_ne pp rc := Ar1.neExa Ep1 (o_m hw 8 rfl)
 have ne8 : o_ne ru rc := Ar1.neExa Er1 (o_m hw 17 rfl)
 have ne9 : o_ne wa pp := Nat.ne_of_lt (Nat.lt_of_lt_of_le wl1 gp1)
 have ne10 : o_ne wa tm := Nat.ne_of_lt (Nat.lt_of_lt_of_le wl1 gt1)
 have ne11 : o_ne wa fr := Nat.ne_of_lt (Nat.lt_of_lt_of_le wl1 gf1)
 have ne12 : o_ne wa rc := Nat.ne_of_lt (Nat.lt_of_lt_of_le wl1 gr1)
 have ne13 : o_ne wa ru := Nat.ne_of_lt (Nat.lt_of_lt_of_le wl1 gu1)
 have ne14 : o_ne tm fr := At1.ne Af1 (by intro q; cases q)
 have ne15 : o_ne fr rc := Af1.ne Ar1 (by intro q; cases q)
 refine o_q T (o_f33 m 60 pp since frmL toL acc cv v10 [(.long cv)]) (fun _ k9 => XS.lload X0.here hx rfl (hb hby o_d31_58) rfl k9) ?_
 refine o_q T (o_f33 m 61 pp since frmL toL acc cv v10 [(.ref pp), (.long cv)]) (fun _ k9 => XS.aloadN X0.here hx rfl (hb hby o_d31_60) rfl rfl k9) ?_
 refine o_gF X0 hx hZ e0 hby hown (o_m hw 79 rfl) F1_changes o_d31_61 fun T16 X16 e16 => ?_
 refine o_q T16 (o_f33 m 65 pp since frmL toL acc cv v10 [(.int (lcmpW cv ch))]) (fun _ k9 => XS.lcmp X16.here hx rfl (hb hby o_d31_64) rfl k9) ?_
 refine o_fN X16 hx hby o_d31_65 ((if0 _ _).trans (flt (mt (lw_gt _ _).mp (mt Int64.lt_iff_toInt_lt.mp (by omega)))).2.2.1) ?_
 refine o_iC (3 : Int32) X16 hx hby o_d31_68 rfl ?_
 refine o_q T16 (o_f33 m 71 pp since frmL toL acc cv v10 [(.long cv), (.int (3 : Int32))]) (fun _ k9 => XS.lload X16.here hx rfl (hb hby o_d31_69) rfl k9) ?_
 refine o_q T16 (o_f33 m 74 pp since frmL toL acc cv v10 [(.long (8 : Int64)), (.long cv), (.int (3 : Int32))]) (fun _ k9 => X16.ldc2Long hx hown (mvT hZ (o_m hw 81 rfl)) (g := (o_f33 m 71 pp since frmL toL acc cv v10 [(.long cv), (.int (3 : Int32))])) rfl (hb hby o_d31_71) _ k9) ?_
 refine o_q T16 (o_f33 m 75 pp since frmL toL acc cv v10 [(.long (cv - (cv / (8 : Int64)) * (8 : Int64))), (.int (3 : Int32))]) (fun _ k9 => XS.lrem X16.here hx rfl (hb hby o_d31_74) rfl (by decide) k9) ?_
 refine o_q T16 (o_f33 m 76 pp since frmL toL acc cv v10 [(.int ((cv - (cv / (8 : Int64)) * (8 : Int64))).toInt32), (.int (3 : Int32))]) (fun _ k9 => XS.l2i X16.here hx rfl (hb hby o_d31_75) rfl k9) ?_
 refine o_q T16 (o_f33 m 77 pp since frmL toL acc cv v10 [(.int ((3 : Int32) * ((cv - (cv / (8 : Int64)) * (8 : Int64))).toInt32))]) (fun _ k9 => XS.imul X16.here hx rfl (hb hby o_d31_76) rfl k9) ?_
 obtain ⟨kp, h_kp⟩ : ∃ z, z = ((3 : Int32) * ((cv - (cv / (8 : Int64)) * (8 : Int64))).toInt32) := ⟨_, rfl⟩
 rw [← h_kp]
 obtain ⟨q8, hq8⟩ : ∃ z, z = cN % 8 := ⟨_, rfl⟩
 have hk8 : q8 < 8 := hq8 ▸ Nat.mod_lt _ (by decide)
 have hkp : kp.toInt = 3 * (q8 : Int) := by rw [h_kp, o_kept2 (cv) (cN) hcv (by omega), ← hq8]; rfl
 have ja : kp.toNatClampNeg = 3 * q8 := by
  have r1 := rng32 kp
  have n0 := o_nat (kp) (by omega)
  omega
 have jb : ((kp + (1 : Int32))).toNatClampNeg = 3 * q8 + 1 := by
  have r1 := rng32 kp
  have k2 : (1 : Int32).toInt = 1 := by decide
  have e3 : ((kp + (1 : Int32))).toInt = kp.toInt + 1 := by
   rw [Jvm.Free.XT.add32 ⟨by rw [show (1 : Int32).toInt = 1 from by decide]; omega, by rw [show (1 : Int32).toInt = 1 from by decide]; omega⟩]; rw [show (1 : Int32).toInt = 1 from by decide]
  have n0 := o_nat ((kp + (1 : Int32))) (by omega)
  omega
 have jc : ((kp + (2 : Int32))).toNatClampNeg = 3 * q8 + 2 := by
  have r1 := rng32 kp
  have k2 : (2 : Int32).toInt = 2 := by decide
  have e3 : ((kp + (2 : Int32))).toInt = kp.toInt + 2 := by
   rw [Jvm.Free.XT.add32 ⟨by rw [show (2 : Int32).toInt = 2 from by decide]; omega, by rw [show (2 : Int32).toInt = 2 from by decide]; omega⟩]; rw [show (2 : Int32).toInt = 2 from by decide]
  have n0 := o_nat ((kp + (2 : Int32))) (by omega)
  omega
 have eA : rs (3 * (cN % 8)) = rs kp.toNatClampNeg := by rw [← hq8, ja]
 have eE : rs (3 * (cN % 8) + 1) = rs ((kp + (1 : Int32))).toNatClampNeg := by rw [← hq8, jb]
 have eF : rs (3 * (cN % 8) + 2) = rs ((kp + (2 : Int32))).toNatClampNeg := by rw [← hq8, jc]
 refine o_q T16 (o_f33 m 79 pp since frmL toL acc cv kp []) (fun _ k9 => XS.istore X16.here hx rfl (hb hby o_d31_77) rfl (l' := (o_t33 pp since frmL toL acc cv kp)) rfl k9) ?_
 refine o_q T16 (o_f33 m 80 pp since frmL toL acc cv kp [(.ref pp)]) (fun _ k9 => XS.aloadN X16.here hx rfl (hb hby o_d31_79) rfl rfl k9) ?_
 refine o_gF X16 hx hZ e16 hby hown (o_m hw 34 rfl) F1_recent o_d31_80 fun T17 X17 e17 => ?_
 refine o_q T17 (o_f33 m 85 pp since frmL toL acc cv kp [(.int kp), (.ref rc)]) (fun _ k9 => XS.iload X17.here hx rfl (hb hby o_d31_83) rfl k9) ?_
 refine o_iC (2 : Int32) X17 hx hby o_d31_85 rfl ?_
 refine o_q T17 (o_f33 m 87 pp since frmL toL acc cv kp [(.int (kp + (2 : Int32))), (.ref rc)]) (fun _ k9 => XS.iadd X17.here hx rfl (hb hby o_d31_86) rfl k9) ?_
 have hin18 : ¬ ((kp + (2 : Int32)) < (0 : Int32)) ∧ (kp + (2 : Int32)) < (24 : Int32) := by
  have r1 := rng32 kp
  have k2 : (2 : Int32).toInt = 2 := by decide
  have e3 : ((kp + (2 : Int32))).toInt = kp.toInt + 2 := by
   rw [Jvm.Free.XT.add32 ⟨by rw [show (2 : Int32).toInt = 2 from by decide]; omega, by rw [show (2 : Int32).toInt = 2 from by decide]; omega⟩]; rw [show (2 : Int32).toInt = 2 from by decide]
  have k4 : (24 : Int32).toInt = 24 := by decide
  have k5 : (0 : Int32).toInt = 0 := by decide
  rw [Int32.lt_iff_toInt_lt, Int32.lt_iff_toInt_lt]
  omega
 refine o_dJ X17 hx hZ e17 hby Ar1 hin18 o_d31_87 ?_
 refine o_lC (1 : Int64) X17 hx hby o_d31_88 rfl ?_
 refine o_q T17 (o_f33 m 90 pp since frmL toL acc cv kp [(.int (lcmpW (rs ((kp + (2 : Int32))).toNatClampNeg) (1 : Int64)))]) (fun _ k9 => XS.lcmp X17.here hx rfl (hb hby o_d31_89) rfl k9) ?_
 by_cases c0 : (rs ((kp + (2 : Int32))).toNatClampNeg) = (1 : Int64)
 ·refine o_fN X17 hx hby o_d31_90 ((if0 _ _).trans (teq ((lw_eq _ _).mpr c0)).2) ?_
  refine o_q T17 (o_f33 m 94 pp since frmL toL acc cv kp [(.ref pp)]) (fun _ k9 => XS.aloadN X17.here hx rfl (hb hby o_d31_93) rfl rfl k9) ?_
  refine o_gF X17 hx hZ e17 hby hown (o_m hw 34 rfl) F1_recent o_d31_94 fun T19 X19 e19 => ?_
  refine o_q T19 (o_f33 m 99 pp since frmL toL acc cv kp [(.int kp), (.ref rc)]) (fun _ k9 => XS.iload X19.here hx rfl (hb hby o_d31_97) rfl k9) ?_
  have hin20 : ¬ (kp < (0 : Int32)) ∧ kp < (24 : Int32) := by
   have r1 := rng32 kp
   have k2 : (24 : Int32).toInt = 24 := by decide
   have k3 : (0 : Int32).toInt = 0 := by decide
   rw [Int32.lt_iff_toInt_lt, Int32.lt_iff_toInt_lt]
   omega
  refine o_dJ X19 hx hZ e19 hby Ar1 hin20 o_d31_99 ?_
  refine o_q T19 (o_f33 m 101 pp since frmL toL acc cv kp [(.long frmL), (.long (rs kp.toNatClampNeg))]) (fun _ k9 => XS.lloadN X19.here hx rfl (hb hby o_d31_100) rfl k9) ?_
  refine o_q T19 (o_f33 m 102 pp since frmL toL acc cv kp [(.int (lcmpW (rs kp.toNatClampNeg) frmL))]) (fun _ k9 => XS.lcmp X19.here hx rfl (hb hby o_d31_101) rfl k9) ?_
  by_cases c1 : (rs kp.toNatClampNeg) < frmL
  ·refine o_fN X19 hx hby o_d31_102 ((if0 _ _).trans (tlt ((lw_lt _ _).mpr c1)).2.1) ?_
   refine o_iC (2 : Int32) X19 hx hby o_d31_105 rfl ?_
   refine o_retI X19 hx hlk hret (hb hby o_d31_106) ⟨?_, rfl, e19⟩ (by decide) (by decide)
   rw [o_sc, if_pos ⟨by rw [eF]; exact c0, by rw [eA]; exact c1⟩]
   try rfl
  ·refine o_fY 137 X19 hx hby o_d31_102 ((if0 _ _).trans (flt (mt (lw_lt _ _).mp c1)).2.1) ?_
   refine o_q T19 (o_f33 m 139 pp since frmL toL acc cv kp [(.long cv)]) (fun _ k9 => XS.lload X19.here hx rfl (hb hby o_d31_137) rfl k9) ?_
   refine o_lC (1 : Int64) X19 hx hby o_d31_139 rfl ?_
   refine o_q T19 (o_f33 m 141 pp since frmL toL acc cv kp [(.long (cv + (1 : Int64)))]) (fun _ k9 => XS.ladd X19.here hx rfl (hb hby o_d31_140) rfl k9) ?_
   refine o_q T19 (o_f33 m 143 pp since frmL toL acc (cv + (1 : Int64)) kp []) (fun _ k9 => XS.lstore X19.here hx rfl (hb hby o_d31_141) rfl (l' := (o_t33 pp since frmL toL acc (cv + (1 : Int64)) kp)) rfl k9) ?_
   refine o_go 58 X19 hx hby o_d31_143 ?_
   have hv21 : ((cv + (1 : Int64))).toInt = ((cN + 1 : Nat) : Int) := by
    have r1 := rng64 cv
    have k2 : (1 : Int64).toInt = 1 := by decide
    have e3 := c_ladd (cv) ((1 : Int64))
    have r3 := rng64 ((cv + (1 : Int64)))
    rw [show (1 : Int64).toInt = 1 from by decide] at e3
    omega
   have GL := ih (cv + (1 : Int64)) (cN + 1) acc kp X19 e19 hv21 (by omega)
   refine o_mono (fun v h Ls q => ?_) GL
   rw [o_sc, if_neg (fun q => c1 (by have y := q.2; rw [eA] at y; exact y)), if_neg (fun q => q.1 (by rw [eF]; exact c0))]; exact q
 ·refine o_fY 107 X17 hx hby o_d31_90 ((if0 _ _).trans (feq (mt (lw_eq _ _).mp c0)).2) ?_
  refine o_q T17 (o_f33 m 108 pp since frmL toL acc cv kp [(.ref pp)]) (fun _ k9 => XS.aloadN X17.here hx rfl (hb hby o_d31_107) rfl rfl k9) ?_
  refine o_gF X17 hx hZ e17 hby hown (o_m hw 34 rfl) F1_recent o_d31_108 fun T22 X22 e22 => ?_
  refine o_q T22 (o_f33 m 113 pp since frmL toL acc cv kp [(.int kp), (.ref rc)]) (fun _ k9 => XS.iload X22.here hx rfl (hb hby o_d31_111) rfl k9) ?_
  have hin23 : ¬ (kp < (0 : Int32)) ∧ kp < (24 : Int32) := by
   have r1 := rng32 kp
   have k2 : (24 : Int32).toInt = 24 := by decide
   have k3 : (0 : Int32).toInt = 0 := by decide
   rw [Int32.lt_iff_toInt_lt, Int32.lt_iff_toInt_lt]
   omega
  refine o_dJ X22 hx hZ e22 hby Ar1 hin23 o_d31_113 ?_
  refine o_q T22 (o_f33 m 116 pp since frmL toL acc cv kp [(.long toL), (.long (rs kp.toNatClampNeg))]) (fun _ k9 => XS.lload X22.here hx rfl (hb hby o_d31_114) rfl k9) ?_
  refine o_q T22 (o_f33 m 117 pp since frmL toL acc cv kp [(.int (lcmpW (rs kp.toNatClampNeg) toL))]) (fun _ k9 => XS.lcmp X22.here hx rfl (hb hby o_d31_116) rfl k9) ?_
  by_cases c1 : (rs kp.toNatClampNeg) < toL
  ·refine o_fN X22 hx hby o_d31_117 ((if0 _ _).trans (tlt ((lw_lt _ _).mpr c1)).2.1) ?_
   refine o_q T22 (o_f33 m 121 pp since frmL toL acc cv kp [(.ref pp)]) (fun _ k9 => XS.aloadN X22.here hx rfl (hb hby o_d31_120) rfl rfl k9) ?_
   refine o_gF X22 hx hZ e22 hby hown (o_m hw 34 rfl) F1_recent o_d31_121 fun T24 X24 e24 => ?_
   refine o_q T24 (o_f33 m 126 pp since frmL toL acc cv kp [(.int kp), (.ref rc)]) (fun _ k9 => XS.iload X24.here hx rfl (hb hby o_d31_124) rfl k9) ?_
   refine o_iC (1 : Int32) X24 hx hby o_d31_126 rfl ?_
   refine o_q T24 (o_f33 m 128 pp since frmL toL acc cv kp [(.int (kp + (1 : Int32))), (.ref rc)]) (fun _ k9 => XS.iadd X24.here hx rfl (hb hby o_d31_127) rfl k9) ?_
   have hin25 : ¬ ((kp + (1 : Int32)) < (0 : Int32)) ∧ (kp + (1 : Int32)) < (24 : Int32) := by
    have r1 := rng32 kp
    have k2 : (1 : Int32).toInt = 1 := by decide
    have e3 : ((kp + (1 : Int32))).toInt = kp.toInt + 1 := by
     rw [Jvm.Free.XT.add32 ⟨by rw [show (1 : Int32).toInt = 1 from by decide]; omega, by rw [show (1 : Int32).toInt = 1 from by decide]; omega⟩]; rw [show (1 : Int32).toInt = 1 from by decide]
    have k4 : (24 : Int32).toInt = 24 := by decide
    have k5 : (0 : Int32).toInt = 0 := by decide
    rw [Int32.lt_iff_toInt_lt, Int32.lt_iff_toInt_lt]
    omega
   refine o_dJ X24 hx hZ e24 hby Ar1 hin25 o_d31_128 ?_
   refine o_q T24 (o_f33 m 130 pp since frmL toL acc cv kp [(.long frmL), (.long (rs ((kp + (1 : Int32))).toNatClampNeg))]) (fun _ k9 => XS.lloadN X24.here hx rfl (hb hby o_d31_129) rfl k9) ?_
   refine o_q T24 (o_f33 m 131 pp since frmL toL acc cv kp [(.int (lcmpW (rs ((kp + (1 : Int32))).toNatClampNeg) frmL))]) (fun _ k9 => XS.lcmp X24.here hx rfl (hb hby o_d31_130) rfl k9) ?_
   by_cases c2 : frmL < (rs ((kp + (1 : Int32))).toNatClampNeg)
   ·refine o_fN X24 hx hby o_d31_131 ((if0 _ _).trans (tlt ((lw_gt _ _).mpr c2)).2.2.2) ?_
    refine o_iC (1 : Int32) X24 hx hby o_d31_134 rfl ?_
    refine o_q T24 (o_f33 m 137 pp since frmL toL (1 : Int32) cv kp []) (fun _ k9 => XS.istore X24.here hx rfl (hb hby o_d31_135) rfl (l' := (o_t33 pp since frmL toL (1 : Int32) cv kp)) rfl k9) ?_
    refine o_q T24 (o_f33 m 139 pp since frmL toL (1 : Int32) cv kp [(.long cv)]) (fun _ k9 => XS.lload X24.here hx rfl (hb hby o_d31_137) rfl k9) ?_
    refine o_lC (1 : Int64) X24 hx hby o_d31_139 rfl ?_
    refine o_q T24 (o_f33 m 141 pp since frmL toL (1 : Int32) cv kp [(.long (cv + (1 : Int64)))]) (fun _ k9 => XS.ladd X24.here hx rfl (hb hby o_d31_140) rfl k9) ?_
    refine o_q T24 (o_f33 m 143 pp since frmL toL (1 : Int32) (cv + (1 : Int64)) kp []) (fun _ k9 => XS.lstore X24.here hx rfl (hb hby o_d31_141) rfl (l' := (o_t33 pp since frmL toL (1 : Int32) (cv + (1 : Int64)) kp)) rfl k9) ?_
    refine o_go 58 X24 hx hby o_d31_143 ?_
    have hv26 : ((cv + (1 : Int64))).toInt = ((cN + 1 : Nat) : Int) := by
     have r1 := rng64 cv
     have k2 : (1 : Int64).toInt = 1 := by decide
     have e3 := c_ladd (cv) ((1 : Int64))
     have r3 := rng64 ((cv + (1 : Int64)))
     rw [show (1 : Int64).toInt = 1 from by decide] at e3
     omega
    have GL := ih (cv + (1 : Int64)) (cN + 1) (1 : Int32) kp X24 e24 hv26 (by omega)
    refine o_mono (fun v h Ls q => ?_) GL
    rw [o_sc, if_neg (fun q => c0 (by have y := q.1; rw [eF] at y; exact y)), if_pos ⟨fun y => c0 (by rw [eF] at y; exact y), by rw [eA]; exact c1, by rw [eE]; exact c2⟩]; exact q
   ·refine o_fY 137 X24 hx hby o_d31_131 ((if0 _ _).trans (flt (mt (lw_gt _ _).mp c2)).2.2.2) ?_
    refine o_q T24 (o_f33 m 139 pp since frmL toL acc cv kp [(.long cv)]) (fun _ k9 => XS.lload X24.here hx rfl (hb hby o_d31_137) rfl k9) ?_
    refine o_lC (1 : Int64) X24 hx hby o_d31_139 rfl ?_
    refine o_q T24 (o_f33 m 141 pp since frmL toL acc cv kp [(.long (cv + (1 : Int64)))]) (fun _ k9 => XS.ladd X24.here hx rfl (hb hby o_d31_140) rfl k9) ?_
    refine o_q T24 (o_f33 m 143 pp since frmL toL acc (cv + (1 : Int64)) kp []) (fun _ k9 => XS.lstore X24.here hx rfl (hb hby o_d31_141) rfl (l' := (o_t33 pp since frmL toL acc (cv + (1 : Int64)) kp)) rfl k9) ?_
    refine o_go 58 X24 hx hby o_d31_143 ?_
    have hv27 : ((cv + (1 : Int64))).toInt = ((cN + 1 : Nat) : Int) := by
     have r1 := rng64 cv
     have k2 : (1 : Int64).toInt = 1 := by decide
     have e3 := c_ladd (cv) ((1 : Int64))
     have r3 := rng64 ((cv + (1 : Int64)))
     rw [show (1 : Int64).toInt = 1 from by decide] at e3
     omega
    have GL := ih (cv + (1 : Int64)) (cN + 1) acc kp X24 e24 hv27 (by omega)
    refine o_mono (fun v h Ls q => ?_) GL
    rw [o_sc, if_neg (fun q => c0 (by have y := q.1; rw [eF] at y; exact y)), if_neg (fun q => c2 (by have y := q.2.2; rw [eE] at y; exact y))]; exact q
  ·refine o_fY 137 X22 hx hby o_d31_117 ((if0 _ _).trans (flt (mt (lw_lt _ _).mp c1)).2.1) ?_
   refine o_q T22 (o_f33 m 139 pp since frmL toL acc cv kp [(.long cv)]) (fun _ k9 => XS.lload X22.here hx rfl (hb hby o_d31_137) rfl k9) ?_
   refine o_lC (1 : Int64) X22 hx hby o_d31_139 rfl ?_
   refine o_q T22 (o_f33 m 141 pp since frmL toL acc cv kp [(.long (cv + (1 : Int64)))]) (fun _ k9 => XS.ladd X22.here hx rfl (hb hby o_d31_140) rfl k9) ?_
   refine o_q T22 (o_f33 m 143 pp since frmL toL acc (cv + (1 : Int64)) kp []) (fun _ k9 => XS.lstore X22.here hx rfl (hb hby o_d31_141) rfl (l' := (o_t33 pp since frmL toL acc (cv + (1 : Int64)) kp)) rfl k9) ?_
   refine o_go 58 X22 hx hby o_d31_143 ?_
   have hv28 : ((cv + (1 : Int64))).toInt = ((cN + 1 : Nat) : Int) := by
    have r1 := rng64 cv
    have k2 : (1 : Int64).toInt = 1 := by decide
    have e3 := c_ladd (cv) ((1 : Int64))
    have r3 := rng64 ((cv + (1 : Int64)))
    rw [show (1 : Int64).toInt = 1 from by decide] at e3
    omega
   have GL := ih (cv + (1 : Int64)) (cN + 1) acc kp X22 e22 hv28 (by omega)
   refine o_mono (fun v h Ls q => ?_) GL
   rw [o_sc, if_neg (fun q => c0 (by have y := q.1; rw [eF] at y; exact y)), if_neg (fun q => c1 (by have y := q.2.1; rw [eA] at y; exact y))]; exact q
theorem o_d31_0 : decode o_y19 0 = .ok (.lload_n 1, 1) := by decide +kernel
theorem o_d31_1 : decode o_y19 1 = .ok (.aload_n 0, 1) := by decide +kernel
theorem o_d31_2 : decode o_y19 2 = .ok (.getfield 156, 3) := by decide +kernel
theorem o_d31_5 : decode o_y19 5 = .ok (.lcmp, 1) := by decide +kernel
theorem o_d31_6 : decode o_y19 6 = .ok (.ifCond .ne 5, 3) := by decide +kernel
theorem o_d31_9 : decode o_y19 9 = .ok (.iconst 0, 1) := by decide +kernel
theorem o_d31_10 : decode o_y19 10 = .ok (.ireturn, 1) := by decide +kernel
theorem o_d31_11 : decode o_y19 11 = .ok (.lload_n 1, 1) := by decide +kernel
theorem o_d31_12 : decode o_y19 12 = .ok (.aload_n 0, 1) := by decide +kernel
theorem o_d31_13 : decode o_y19 13 = .ok (.getfield 160, 3) := by decide +kernel
theorem o_d31_16 : decode o_y19 16 = .ok (.lcmp, 1) := by decide +kernel
theorem o_d31_17 : decode o_y19 17 = .ok (.ifCond .ge 5, 3) := by decide +kernel
theorem o_d31_22 : decode o_y19 22 = .ok (.aload_n 0, 1) := by decide +kernel
theorem o_d31_23 : decode o_y19 23 = .ok (.getfield 156, 3) := by decide +kernel
theorem o_d31_26 : decode o_y19 26 = .ok (.lload_n 1, 1) := by decide +kernel
theorem o_d31_27 : decode o_y19 27 = .ok (.lsub, 1) := by decide +kernel
theorem o_d31_28 : decode o_y19 28 = .ok (.ldc2_w 166, 3) := by decide +kernel
theorem o_d31_31 : decode o_y19 31 = .ok (.lcmp, 1) := by decide +kernel
theorem o_d31_32 : decode o_y19 32 = .ok (.ifCond .le 18, 3) := by decide +kernel
theorem o_d31_35 : decode o_y19 35 = .ok (.lload_n 1, 1) := by decide +kernel
theorem o_d31_36 : decode o_y19 36 = .ok (.aload_n 0, 1) := by decide +kernel
theorem o_d31_37 : decode o_y19 37 = .ok (.getfield 163, 3) := by decide +kernel
theorem o_d31_40 : decode o_y19 40 = .ok (.lcmp, 1) := by decide +kernel
theorem o_d31_41 : decode o_y19 41 = .ok (.ifCond .lt 7, 3) := by decide +kernel
theorem o_d31_48 : decode o_y19 48 = .ok (.iconst 2, 1) := by decide +kernel
theorem o_d31_49 : decode o_y19 49 = .ok (.ireturn, 1) := by decide +kernel
theorem o_d31_44 : decode o_y19 44 = .ok (.iconst 1, 1) := by decide +kernel
theorem o_d31_45 : decode o_y19 45 = .ok (.goto 4, 3) := by decide +kernel
theorem o_d31_50 : decode o_y19 50 = .ok (.iconst 0, 1) := by decide +kernel
theorem o_d31_51 : decode o_y19 51 = .ok (.istore 7, 2) := by decide +kernel
theorem o_d31_53 : decode o_y19 53 = .ok (.lload_n 1, 1) := by decide +kernel
theorem o_d31_54 : decode o_y19 54 = .ok (.lconst 1, 1) := by decide +kernel
theorem o_d31_55 : decode o_y19 55 = .ok (.ladd, 1) := by decide +kernel
theorem o_d31_56 : decode o_y19 56 = .ok (.lstore 8, 2) := by decide +kernel
theorem o_pn31 : plainFor (⟨o_n1, "changedSince", "(JJJ)I"⟩ : MethodName) = true := plainFor_of_name (by first | (simp [plainName, overriddenIn]; done) | decide +kernel)
set_option maxRecDepth 65536 in
set_option maxHeartbeats 40000000 in
theorem o_since (l : Launch) (Z : State) (a0 : Array Value) (hw : ∀ d ∈ tables_1, d.before a0 Z = true) (n0 : Nat) (pp rc ru wa tm fr : Addr) (tl la L : Int32) (ch gb : Int64) (xs : Nat → Int64) (fs : Nat → Int32) (rs : Nat → Int64) (since frmL toL : Int64) (cn sn : Nat) (h0 : Heap) (hP : o_Pr Z n0 pp rc ru wa tm fr tl la L ch gb xs fs rs h0) (hc : ch.toInt = (cn : Int)) (hs : since.toInt = (sn : Int)) (h1 : sn ≤ cn) (h2 : cn ≤ 50) :
  o_C l (⟨o_n1, "changedSince", "(JJJ)I"⟩ : MethodName) o_y19 11 (some .int) (o_R 0 0 0 0) Z h0 #[(.ref pp), (.long since), (.long frmL), (.long toL)] (o_P (some (.int (o_cs rs gb frmL toL cn sn since))) h0) := by
 refine o_body o_pn31 ?_
 intro p e s m below meth c s₁ hx hby hml hZ hown hnm hret hlk X0 e0
 refine o_cast (f' := (o_f34 m 0 pp since frmL toL [])) (by first | (simp [entryFrame, mkF, argsToLocals, Value.category, maxLocals]; done) | rfl) ?_
 have hPk := hP
 obtain ⟨Ep1, Er1, Ew1, F1_cpus, F1_times, F1_free, F1_head, F1_tail, F1_lastAt, F1_runs, F1_firstKnown, F1_watcher, F1_watchedAs, F1_changes, F1_merged, F1_gaveBack, F1_recent, Fn1, At1, Af1, Ar1, nt1, wl1, gp1, gt1, gf1, gr1, gu1⟩ := hP
 refine o_q s₁ (o_f34 m 1 pp since frmL toL [(.long since)]) (fun _ k9 => XS.lloadN X0.here hx rfl (hb hby o_d31_0) rfl k9) ?_
 refine o_q s₁ (o_f34 m 2 pp since frmL toL [(.ref pp), (.long since)]) (fun _ k9 => XS.aloadN X0.here hx rfl (hb hby o_d31_1) rfl rfl k9) ?_
 refine o_gF X0 hx hZ e0 hby hown (o_m hw 79 rfl) F1_changes o_d31_2 fun T16 X16 e16 => ?_
 refine o_q T16 (o_f34 m 6 pp since frmL toL [(.int (lcmpW since ch))]) (fun _ k9 => XS.lcmp X16.here hx rfl (hb hby o_d31_5) rfl k9) ?_
 by_cases c0 : since = ch
 ·refine o_fN X16 hx hby o_d31_6 ((if0 _ _).trans (teq ((lw_eq _ _).mpr c0)).2) ?_
  refine o_iC (0 : Int32) X16 hx hby o_d31_9 rfl ?_
  refine o_retI X16 hx hlk hret (hb hby o_d31_10) ⟨?_, rfl, e16⟩ (by decide) (by decide)
  rw [o_cs, if_pos (o_eqeq c0 hs hc)]
  try rfl
 ·refine o_fY 11 X16 hx hby o_d31_6 ((if0 _ _).trans (feq (mt (lw_eq _ _).mp c0)).2) ?_
  refine o_q T16 (o_f34 m 12 pp since frmL toL [(.long since)]) (fun _ k9 => XS.lloadN X16.here hx rfl (hb hby o_d31_11) rfl k9) ?_
  refine o_q T16 (o_f34 m 13 pp since frmL toL [(.ref pp), (.long since)]) (fun _ k9 => XS.aloadN X16.here hx rfl (hb hby o_d31_12) rfl rfl k9) ?_
  refine o_gF X16 hx hZ e16 hby hown (o_m hw 176 rfl) F1_merged o_d31_13 fun T17 X17 e17 => ?_
  refine o_q T17 (o_f34 m 17 pp since frmL toL [(.int (lcmpW since (0 : Int64)))]) (fun _ k9 => XS.lcmp X17.here hx rfl (hb hby o_d31_16) rfl k9) ?_
  refine o_fY 22 X17 hx hby o_d31_17 ((if0 _ _).trans (flt (mt (lw_lt _ _).mp (o_nlt0L (by omega)))).2.1) ?_
  refine o_q T17 (o_f34 m 23 pp since frmL toL [(.ref pp)]) (fun _ k9 => XS.aloadN X17.here hx rfl (hb hby o_d31_22) rfl rfl k9) ?_
  refine o_gF X17 hx hZ e17 hby hown (o_m hw 79 rfl) F1_changes o_d31_23 fun T18 X18 e18 => ?_
  refine o_q T18 (o_f34 m 27 pp since frmL toL [(.long since), (.long ch)]) (fun _ k9 => XS.lloadN X18.here hx rfl (hb hby o_d31_26) rfl k9) ?_
  refine o_q T18 (o_f34 m 28 pp since frmL toL [(.long (ch - since))]) (fun _ k9 => XS.lsub X18.here hx rfl (hb hby o_d31_27) rfl k9) ?_
  refine o_q T18 (o_f34 m 31 pp since frmL toL [(.long (8 : Int64)), (.long (ch - since))]) (fun _ k9 => X18.ldc2Long hx hown (mvT hZ (o_m hw 81 rfl)) (g := (o_f34 m 28 pp since frmL toL [(.long (ch - since))])) rfl (hb hby o_d31_28) _ k9) ?_
  refine o_q T18 (o_f34 m 32 pp since frmL toL [(.int (lcmpW (ch - since) (8 : Int64)))]) (fun _ k9 => XS.lcmp X18.here hx rfl (hb hby o_d31_31) rfl k9) ?_
  by_cases c1 : (8 : Int64) < (ch - since)
  ·refine o_fN X18 hx hby o_d31_32 ((if0 _ _).trans (tlt ((lw_gt _ _).mpr c1)).2.2.2) ?_
   refine o_q T18 (o_f34 m 36 pp since frmL toL [(.long since)]) (fun _ k9 => XS.lloadN X18.here hx rfl (hb hby o_d31_35) rfl k9) ?_
   refine o_q T18 (o_f34 m 37 pp since frmL toL [(.ref pp), (.long since)]) (fun _ k9 => XS.aloadN X18.here hx rfl (hb hby o_d31_36) rfl rfl k9) ?_
   refine o_gF X18 hx hZ e18 hby hown (o_m hw 178 rfl) F1_gaveBack o_d31_37 fun T19 X19 e19 => ?_
   refine o_q T19 (o_f34 m 41 pp since frmL toL [(.int (lcmpW since gb))]) (fun _ k9 => XS.lcmp X19.here hx rfl (hb hby o_d31_40) rfl k9) ?_
   by_cases c2 : since < gb
   ·refine o_fY 48 X19 hx hby o_d31_41 ((if0 _ _).trans (tlt ((lw_lt _ _).mpr c2)).1) ?_
    refine o_iC (2 : Int32) X19 hx hby o_d31_48 rfl ?_
    refine o_retI X19 hx hlk hret (hb hby o_d31_49) ⟨?_, rfl, e19⟩ (by decide) (by decide)
    have n8 : 8 < cn - sn := by
     have y := Int64.lt_iff_toInt_lt.mp c1
     have r1 := rng64 ch
     have r2 := rng64 since
     have e3 := c_lsub (ch) (since)
     have r3 := rng64 ((ch - since))
     have k4 : (8 : Int64).toInt = 8 := by decide
     omega
    rw [o_cs, if_neg (o_eqne c0 hs hc), if_pos n8, if_pos c2]
    try rfl
   ·refine o_fN X19 hx hby o_d31_41 ((if0 _ _).trans (flt (mt (lw_lt _ _).mp c2)).1) ?_
    refine o_iC (1 : Int32) X19 hx hby o_d31_44 rfl ?_
    refine o_go 49 X19 hx hby o_d31_45 ?_
    refine o_retI X19 hx hlk hret (hb hby o_d31_49) ⟨?_, rfl, e19⟩ (by decide) (by decide)
    have n8 : 8 < cn - sn := by
     have y := Int64.lt_iff_toInt_lt.mp c1
     have r1 := rng64 ch
     have r2 := rng64 since
     have e3 := c_lsub (ch) (since)
     have r3 := rng64 ((ch - since))
     have k4 : (8 : Int64).toInt = 8 := by decide
     omega
    rw [o_cs, if_neg (o_eqne c0 hs hc), if_pos n8, if_neg c2]
    try rfl
  ·refine o_fY 50 X18 hx hby o_d31_32 ((if0 _ _).trans (flt (mt (lw_gt _ _).mp c1)).2.2.2) ?_
   refine o_iC (0 : Int32) X18 hx hby o_d31_50 rfl ?_
   refine o_q T18 (o_f35 m 53 pp since frmL toL (0 : Int32) []) (fun _ k9 => XS.istore X18.here hx rfl (hb hby o_d31_51) rfl (l' := (o_t35 pp since frmL toL (0 : Int32))) rfl k9) ?_
   refine o_q T18 (o_f35 m 54 pp since frmL toL (0 : Int32) [(.long since)]) (fun _ k9 => XS.lloadN X18.here hx rfl (hb hby o_d31_53) rfl k9) ?_
   refine o_lC (1 : Int64) X18 hx hby o_d31_54 rfl ?_
   refine o_q T18 (o_f35 m 56 pp since frmL toL (0 : Int32) [(.long (since + (1 : Int64)))]) (fun _ k9 => XS.ladd X18.here hx rfl (hb hby o_d31_55) rfl k9) ?_
   refine o_q T18 (o_f36 m 58 pp since frmL toL (0 : Int32) (since + (1 : Int64)) []) (fun _ k9 => XS.lstore X18.here hx rfl (hb hby o_d31_56) rfl (l' := (o_t36 pp since frmL toL (0 : Int32) (since + (1 : Int64)))) rfl k9) ?_
   have hcv : (since + (1 : Int64)).toInt = ((sn + 1 : Nat) : Int) := by
    have r1 := rng64 since
    have k2 : (1 : Int64).toInt = 1 := by decide
    have e3 := c_ladd (since) ((1 : Int64))
    have r3 := rng64 ((since + (1 : Int64)))
    rw [show (1 : Int64).toInt = 1 from by decide] at e3
    omega
   have nsc := o_eqne c0 hs hc
   have n8 : ¬ 8 < cn - sn := by
    have y := mt Int64.lt_iff_toInt_lt.mpr c1
    have r1 := rng64 ch
    have r2 := rng64 since
    have e3 := c_lsub (ch) (since)
    have r3 := rng64 ((ch - since))
    have k4 : (8 : Int64).toInt = 8 := by decide
    omega
   refine o_q T18 (o_f36 m 60 pp since frmL toL (0 : Int32) (since + (1 : Int64)) [(.long (since + (1 : Int64)))]) (fun _ k9 => XS.lload X18.here hx rfl (hb hby o_d31_58) rfl k9) ?_
   refine o_q T18 (o_f36 m 61 pp since frmL toL (0 : Int32) (since + (1 : Int64)) [(.ref pp), (.long (since + (1 : Int64)))]) (fun _ k9 => XS.aloadN X18.here hx rfl (hb hby o_d31_60) rfl rfl k9) ?_
   refine o_gF X18 hx hZ e18 hby hown (o_m hw 79 rfl) F1_changes o_d31_61 fun T20 X20 e20 => ?_
   refine o_q T20 (o_f36 m 65 pp since frmL toL (0 : Int32) (since + (1 : Int64)) [(.int (lcmpW (since + (1 : Int64)) ch))]) (fun _ k9 => XS.lcmp X20.here hx rfl (hb hby o_d31_64) rfl k9) ?_
   refine o_fN X20 hx hby o_d31_65 ((if0 _ _).trans (flt (mt (lw_gt _ _).mp (mt Int64.lt_iff_toInt_lt.mp (by rw [hcv]; have := o_eqne c0 hs hc; omega)))).2.2.1) ?_
   refine o_iC (3 : Int32) X20 hx hby o_d31_68 rfl ?_
   refine o_q T20 (o_f36 m 71 pp since frmL toL (0 : Int32) (since + (1 : Int64)) [(.long (since + (1 : Int64))), (.int (3 : Int32))]) (fun _ k9 => XS.lload X20.here hx rfl (hb hby o_d31_69) rfl k9) ?_
   refine o_q T20 (o_f36 m 74 pp since frmL toL (0 : Int32) (since + (1 : Int64)) [(.long (8 : Int64)), (.long (since + (1 : Int64))), (.int (3 : Int32))]) (fun _ k9 => X20.ldc2Long hx hown (mvT hZ (o_m hw 81 rfl)) (g := (o_f36 m 71 pp since frmL toL (0 : Int32) (since + (1 : Int64)) [(.long (since + (1 : Int64))), (.int (3 : Int32))])) rfl (hb hby o_d31_71) _ k9) ?_
   refine o_q T20 (o_f36 m 75 pp since frmL toL (0 : Int32) (since + (1 : Int64)) [(.long ((since + (1 : Int64)) - ((since + (1 : Int64)) / (8 : Int64)) * (8 : Int64))), (.int (3 : Int32))]) (fun _ k9 => XS.lrem X20.here hx rfl (hb hby o_d31_74) rfl (by decide) k9) ?_
   refine o_q T20 (o_f36 m 76 pp since frmL toL (0 : Int32) (since + (1 : Int64)) [(.int (((since + (1 : Int64)) - ((since + (1 : Int64)) / (8 : Int64)) * (8 : Int64))).toInt32), (.int (3 : Int32))]) (fun _ k9 => XS.l2i X20.here hx rfl (hb hby o_d31_75) rfl k9) ?_
   refine o_q T20 (o_f36 m 77 pp since frmL toL (0 : Int32) (since + (1 : Int64)) [(.int ((3 : Int32) * (((since + (1 : Int64)) - ((since + (1 : Int64)) / (8 : Int64)) * (8 : Int64))).toInt32))]) (fun _ k9 => XS.imul X20.here hx rfl (hb hby o_d31_76) rfl k9) ?_
   obtain ⟨kp, h_kp⟩ : ∃ z, z = ((3 : Int32) * (((since + (1 : Int64)) - ((since + (1 : Int64)) / (8 : Int64)) * (8 : Int64))).toInt32) := ⟨_, rfl⟩
   rw [← h_kp]
   obtain ⟨q8, hq8⟩ : ∃ z, z = (sn + 1) % 8 := ⟨_, rfl⟩
   have hk8 : q8 < 8 := hq8 ▸ Nat.mod_lt _ (by decide)
   have hkp : kp.toInt = 3 * (q8 : Int) := by rw [h_kp, o_kept2 ((since + (1 : Int64))) ((sn + 1)) hcv (by omega), ← hq8]; rfl
   have ja : kp.toNatClampNeg = 3 * q8 := by
    have r1 := rng32 kp
    have n0 := o_nat (kp) (by omega)
    omega
   have jb : ((kp + (1 : Int32))).toNatClampNeg = 3 * q8 + 1 := by
    have r1 := rng32 kp
    have k2 : (1 : Int32).toInt = 1 := by decide
    have e3 : ((kp + (1 : Int32))).toInt = kp.toInt + 1 := by
     rw [Jvm.Free.XT.add32 ⟨by rw [show (1 : Int32).toInt = 1 from by decide]; omega, by rw [show (1 : Int32).toInt = 1 from by decide]; omega⟩]; rw [show (1 : Int32).toInt = 1 from by decide]
    have n0 := o_nat ((kp + (1 : Int32))) (by omega)
    omega
   have jc : ((kp + (2 : Int32))).toNatClampNeg = 3 * q8 + 2 := by
    have r1 := rng32 kp
    have k2 : (2 : Int32).toInt = 2 := by decide
    have e3 : ((kp + (2 : Int32))).toInt = kp.toInt + 2 := by
     rw [Jvm.Free.XT.add32 ⟨by rw [show (2 : Int32).toInt = 2 from by decide]; omega, by rw [show (2 : Int32).toInt = 2 from by decide]; omega⟩]; rw [show (2 : Int32).toInt = 2 from by decide]
    have n0 := o_nat ((kp + (2 : Int32))) (by omega)
    omega
   have eA : rs (3 * ((sn + 1) % 8)) = rs kp.toNatClampNeg := by rw [← hq8, ja]
   have eE : rs (3 * ((sn + 1) % 8) + 1) = rs ((kp + (1 : Int32))).toNatClampNeg := by rw [← hq8, jb]
   have eF : rs (3 * ((sn + 1) % 8) + 2) = rs ((kp + (2 : Int32))).toNatClampNeg := by rw [← hq8, jc]
   refine o_q T20 (o_f33 m 79 pp since frmL toL (0 : Int32) (since + (1 : Int64)) kp []) (fun _ k9 => XS.istore X20.here hx rfl (hb hby o_d31_77) rfl (l' := (o_t33 pp since frmL toL (0 : Int32) (since + (1 : Int64)) kp)) rfl k9) ?_
   refine o_q T20 (o_f33 m 80 pp since frmL toL (0 : Int32) (since + (1 : Int64)) kp [(.ref pp)]) (fun _ k9 => XS.aloadN X20.here hx rfl (hb hby o_d31_79) rfl rfl k9) ?_
   refine o_gF X20 hx hZ e20 hby hown (o_m hw 34 rfl) F1_recent o_d31_80 fun T21 X21 e21 => ?_
   refine o_q T21 (o_f33 m 85 pp since frmL toL (0 : Int32) (since + (1 : Int64)) kp [(.int kp), (.ref rc)]) (fun _ k9 => XS.iload X21.here hx rfl (hb hby o_d31_83) rfl k9) ?_
   refine o_iC (2 : Int32) X21 hx hby o_d31_85 rfl ?_
   refine o_q T21 (o_f33 m 87 pp since frmL toL (0 : Int32) (since + (1 : Int64)) kp [(.int (kp + (2 : Int32))), (.ref rc)]) (fun _ k9 => XS.iadd X21.here hx rfl (hb hby o_d31_86) rfl k9) ?_
   have hin22 : ¬ ((kp + (2 : Int32)) < (0 : Int32)) ∧ (kp + (2 : Int32)) < (24 : Int32) := by
    have r1 := rng32 kp
    have k2 : (2 : Int32).toInt = 2 := by decide
    have e3 : ((kp + (2 : Int32))).toInt = kp.toInt + 2 := by
     rw [Jvm.Free.XT.add32 ⟨by rw [show (2 : Int32).toInt = 2 from by decide]; omega, by rw [show (2 : Int32).toInt = 2 from by decide]; omega⟩]; rw [show (2 : Int32).toInt = 2 from by decide]
    have k4 : (24 : Int32).toInt = 24 := by decide
    have k5 : (0 : Int32).toInt = 0 := by decide
    rw [Int32.lt_iff_toInt_lt, Int32.lt_iff_toInt_lt]
    omega
   refine o_dJ X21 hx hZ e21 hby Ar1 hin22 o_d31_87 ?_
   refine o_lC (1 : Int64) X21 hx hby o_d31_88 rfl ?_
   refine o_q T21 (o_f33 m 90 pp since frmL toL (0 : Int32) (since + (1 : Int64)) kp [(.int (lcmpW (rs ((kp + (2 : Int32))).toNatClampNeg) (1 : Int64)))]) (fun _ k9 => XS.lcmp X21.here hx rfl (hb hby o_d31_89) rfl k9) ?_
   by_cases c2 : (rs ((kp + (2 : Int32))).toNatClampNeg) = (1 : Int64)
   ·refine o_fN X21 hx hby o_d31_90 ((if0 _ _).trans (teq ((lw_eq _ _).mpr c2)).2) ?_
    refine o_q T21 (o_f33 m 94 pp since frmL toL (0 : Int32) (since + (1 : Int64)) kp [(.ref pp)]) (fun _ k9 => XS.aloadN X21.here hx rfl (hb hby o_d31_93) rfl rfl k9) ?_
    refine o_gF X21 hx hZ e21 hby hown (o_m hw 34 rfl) F1_recent o_d31_94 fun T23 X23 e23 => ?_
    refine o_q T23 (o_f33 m 99 pp since frmL toL (0 : Int32) (since + (1 : Int64)) kp [(.int kp), (.ref rc)]) (fun _ k9 => XS.iload X23.here hx rfl (hb hby o_d31_97) rfl k9) ?_
    have hin24 : ¬ (kp < (0 : Int32)) ∧ kp < (24 : Int32) := by
     have r1 := rng32 kp
     have k2 : (24 : Int32).toInt = 24 := by decide
     have k3 : (0 : Int32).toInt = 0 := by decide
     rw [Int32.lt_iff_toInt_lt, Int32.lt_iff_toInt_lt]
     omega
    refine o_dJ X23 hx hZ e23 hby Ar1 hin24 o_d31_99 ?_
    refine o_q T23 (o_f33 m 101 pp since frmL toL (0 : Int32) (since + (1 : Int64)) kp [(.long frmL), (.long (rs kp.toNatClampNeg))]) (fun _ k9 => XS.lloadN X23.here hx rfl (hb hby o_d31_100) rfl k9) ?_
    refine o_q T23 (o_f33 m 102 pp since frmL toL (0 : Int32) (since + (1 : Int64)) kp [(.int (lcmpW (rs kp.toNatClampNeg) frmL))]) (fun _ k9 => XS.lcmp X23.here hx rfl (hb hby o_d31_101) rfl k9) ?_
    by_cases c3 : (rs kp.toNatClampNeg) < frmL
    ·refine o_fN X23 hx hby o_d31_102 ((if0 _ _).trans (tlt ((lw_lt _ _).mpr c3)).2.1) ?_
     refine o_iC (2 : Int32) X23 hx hby o_d31_105 rfl ?_
     refine o_retI X23 hx hlk hret (hb hby o_d31_106) ⟨?_, rfl, e23⟩ (by decide) (by decide)
     rw [o_cs, if_neg nsc, if_neg n8, show cn - sn = (cn - sn - 1) + 1 by omega, o_sc, if_pos ⟨by rw [eF]; exact c2, by rw [eA]; exact c3⟩]
     try rfl
    ·refine o_fY 137 X23 hx hby o_d31_102 ((if0 _ _).trans (flt (mt (lw_lt _ _).mp c3)).2.1) ?_
     refine o_q T23 (o_f33 m 139 pp since frmL toL (0 : Int32) (since + (1 : Int64)) kp [(.long (since + (1 : Int64)))]) (fun _ k9 => XS.lload X23.here hx rfl (hb hby o_d31_137) rfl k9) ?_
     refine o_lC (1 : Int64) X23 hx hby o_d31_139 rfl ?_
     refine o_q T23 (o_f33 m 141 pp since frmL toL (0 : Int32) (since + (1 : Int64)) kp [(.long ((since + (1 : Int64)) + (1 : Int64)))]) (fun _ k9 => XS.ladd X23.here hx rfl (hb hby o_d31_140) rfl k9) ?_
     refine o_q T23 (o_f33 m 143 pp since frmL toL (0 : Int32) ((since + (1 : Int64)) + (1 : Int64)) kp []) (fun _ k9 => XS.lstore X23.here hx rfl (hb hby o_d31_141) rfl (l' := (o_t33 pp since frmL toL (0 : Int32) ((since + (1 : Int64)) + (1 : Int64)) kp)) rfl k9) ?_
     refine o_go 58 X23 hx hby o_d31_143 ?_
     have hv25 : (((since + (1 : Int64)) + (1 : Int64))).toInt = ((sn + 2 : Nat) : Int) := by
      have r1 := rng64 since
      have k2 : (1 : Int64).toInt = 1 := by decide
      have e3 := c_ladd (since) ((1 : Int64))
      have r3 := rng64 ((since + (1 : Int64)))
      rw [show (1 : Int64).toInt = 1 from by decide] at e3
      have e4 := c_ladd ((since + (1 : Int64))) ((1 : Int64))
      have r4 := rng64 (((since + (1 : Int64)) + (1 : Int64)))
      rw [show (1 : Int64).toInt = 1 from by decide] at e4
      omega
     have GL := o_since_loop Z a0 hw n0 pp rc ru wa tm fr tl la L ch gb xs fs rs since frmL toL cn sn h0 hPk hc hs h1 h2 hx hby hml hZ hown hret hlk (cn - sn - 1) ((since + (1 : Int64)) + (1 : Int64)) (sn + 2) (0 : Int32) kp X23 e23 hv25 (by omega)
     refine o_mono (fun v h Ls q => ?_) GL
     rw [o_cs, if_neg nsc, if_neg n8, show cn - sn = (cn - sn - 1) + 1 by omega, o_sc, if_neg (fun q => c3 (by have y := q.2; rw [eA] at y; exact y)), if_neg (fun q => q.1 (by rw [eF]; exact c2))]; exact q
   ·refine o_fY 107 X21 hx hby o_d31_90 ((if0 _ _).trans (feq (mt (lw_eq _ _).mp c2)).2) ?_
    refine o_q T21 (o_f33 m 108 pp since frmL toL (0 : Int32) (since + (1 : Int64)) kp [(.ref pp)]) (fun _ k9 => XS.aloadN X21.here hx rfl (hb hby o_d31_107) rfl rfl k9) ?_
    refine o_gF X21 hx hZ e21 hby hown (o_m hw 34 rfl) F1_recent o_d31_108 fun T26 X26 e26 => ?_
    refine o_q T26 (o_f33 m 113 pp since frmL toL (0 : Int32) (since + (1 : Int64)) kp [(.int kp), (.ref rc)]) (fun _ k9 => XS.iload X26.here hx rfl (hb hby o_d31_111) rfl k9) ?_
    have hin27 : ¬ (kp < (0 : Int32)) ∧ kp < (24 : Int32) := by
     have r1 := rng32 kp
     have k2 : (24 : Int32).toInt = 24 := by decide
     have k3 : (0 : Int32).toInt = 0 := by decide
     rw [Int32.lt_iff_toInt_lt, Int32.lt_iff_toInt_lt]
     omega
    refine o_dJ X26 hx hZ e26 hby Ar1 hin27 o_d31_113 ?_
    refine o_q T26 (o_f33 m 116 pp since frmL toL (0 : Int32) (since + (1 : Int64)) kp [(.long toL), (.long (rs kp.toNatClampNeg))]) (fun _ k9 => XS.lload X26.here hx rfl (hb hby o_d31_114) rfl k9) ?_
    refine o_q T26 (o_f33 m 117 pp since frmL toL (0 : Int32) (since + (1 : Int64)) kp [(.int (lcmpW (rs kp.toNatClampNeg) toL))]) (fun _ k9 => XS.lcmp X26.here hx rfl (hb hby o_d31_116) rfl k9) ?_
    by_cases c3 : (rs kp.toNatClampNeg) < toL
    ·refine o_fN X26 hx hby o_d31_117 ((if0 _ _).trans (tlt ((lw_lt _ _).mpr c3)).2.1) ?_
     refine o_q T26 (o_f33 m 121 pp since frmL toL (0 : Int32) (since + (1 : Int64)) kp [(.ref pp)]) (fun _ k9 => XS.aloadN X26.here hx rfl (hb hby o_d31_120) rfl rfl k9) ?_
     refine o_gF X26 hx hZ e26 hby hown (o_m hw 34 rfl) F1_recent o_d31_121 fun T28 X28 e28 => ?_
     refine o_q T28 (o_f33 m 126 pp since frmL toL (0 : Int32) (since + (1 : Int64)) kp [(.int kp), (.ref rc)]) (fun _ k9 => XS.iload X28.here hx rfl (hb hby o_d31_124) rfl k9) ?_
     refine o_iC (1 : Int32) X28 hx hby o_d31_126 rfl ?_
     refine o_q T28 (o_f33 m 128 pp since frmL toL (0 : Int32) (since + (1 : Int64)) kp [(.int (kp + (1 : Int32))), (.ref rc)]) (fun _ k9 => XS.iadd X28.here hx rfl (hb hby o_d31_127) rfl k9) ?_
     have hin29 : ¬ ((kp + (1 : Int32)) < (0 : Int32)) ∧ (kp + (1 : Int32)) < (24 : Int32) := by
      have r1 := rng32 kp
      have k2 : (1 : Int32).toInt = 1 := by decide
      have e3 : ((kp + (1 : Int32))).toInt = kp.toInt + 1 := by
       rw [Jvm.Free.XT.add32 ⟨by rw [show (1 : Int32).toInt = 1 from by decide]; omega, by rw [show (1 : Int32).toInt = 1 from by decide]; omega⟩]; rw [show (1 : Int32).toInt = 1 from by decide]
      have k4 : (24 : Int32).toInt = 24 := by decide
      have k5 : (0 : Int32).toInt = 0 := by decide
      rw [Int32.lt_iff_toInt_lt, Int32.lt_iff_toInt_lt]
      omega
     refine o_dJ X28 hx hZ e28 hby Ar1 hin29 o_d31_128 ?_
     refine o_q T28 (o_f33 m 130 pp since frmL toL (0 : Int32) (since + (1 : Int64)) kp [(.long frmL), (.long (rs ((kp + (1 : Int32))).toNatClampNeg))]) (fun _ k9 => XS.lloadN X28.here hx rfl (hb hby o_d31_129) rfl k9) ?_
     refine o_q T28 (o_f33 m 131 pp since frmL toL (0 : Int32) (since + (1 : Int64)) kp [(.int (lcmpW (rs ((kp + (1 : Int32))).toNatClampNeg) frmL))]) (fun _ k9 => XS.lcmp X28.here hx rfl (hb hby o_d31_130) rfl k9) ?_
     by_cases c4 : frmL < (rs ((kp + (1 : Int32))).toNatClampNeg)
     ·refine o_fN X28 hx hby o_d31_131 ((if0 _ _).trans (tlt ((lw_gt _ _).mpr c4)).2.2.2) ?_
      refine o_iC (1 : Int32) X28 hx hby o_d31_134 rfl ?_
      refine o_q T28 (o_f33 m 137 pp since frmL toL (1 : Int32) (since + (1 : Int64)) kp []) (fun _ k9 => XS.istore X28.here hx rfl (hb hby o_d31_135) rfl (l' := (o_t33 pp since frmL toL (1 : Int32) (since + (1 : Int64)) kp)) rfl k9) ?_
      refine o_q T28 (o_f33 m 139 pp since frmL toL (1 : Int32) (since + (1 : Int64)) kp [(.long (since + (1 : Int64)))]) (fun _ k9 => XS.lload X28.here hx rfl (hb hby o_d31_137) rfl k9) ?_
      refine o_lC (1 : Int64) X28 hx hby o_d31_139 rfl ?_
      refine o_q T28 (o_f33 m 141 pp since frmL toL (1 : Int32) (since + (1 : Int64)) kp [(.long ((since + (1 : Int64)) + (1 : Int64)))]) (fun _ k9 => XS.ladd X28.here hx rfl (hb hby o_d31_140) rfl k9) ?_
      refine o_q T28 (o_f33 m 143 pp since frmL toL (1 : Int32) ((since + (1 : Int64)) + (1 : Int64)) kp []) (fun _ k9 => XS.lstore X28.here hx rfl (hb hby o_d31_141) rfl (l' := (o_t33 pp since frmL toL (1 : Int32) ((since + (1 : Int64)) + (1 : Int64)) kp)) rfl k9) ?_
      refine o_go 58 X28 hx hby o_d31_143 ?_
      have hv30 : (((since + (1 : Int64)) + (1 : Int64))).toInt = ((sn + 2 : Nat) : Int) := by
       have r1 := rng64 since
       have k2 : (1 : Int64).toInt = 1 := by decide
       have e3 := c_ladd (since) ((1 : Int64))
       have r3 := rng64 ((since + (1 : Int64)))
       rw [show (1 : Int64).toInt = 1 from by decide] at e3
       have e4 := c_ladd ((since + (1 : Int64))) ((1 : Int64))
       have r4 := rng64 (((since + (1 : Int64)) + (1 : Int64)))
       rw [show (1 : Int64).toInt = 1 from by decide] at e4
       omega
      have GL := o_since_loop Z a0 hw n0 pp rc ru wa tm fr tl la L ch gb xs fs rs since frmL toL cn sn h0 hPk hc hs h1 h2 hx hby hml hZ hown hret hlk (cn - sn - 1) ((since + (1 : Int64)) + (1 : Int64)) (sn + 2) (1 : Int32) kp X28 e28 hv30 (by omega)
      refine o_mono (fun v h Ls q => ?_) GL
      rw [o_cs, if_neg nsc, if_neg n8, show cn - sn = (cn - sn - 1) + 1 by omega, o_sc, if_neg (fun q => c2 (by have y := q.1; rw [eF] at y; exact y)), if_pos ⟨fun y => c2 (by rw [eF] at y; exact y), by rw [eA]; exact c3, by rw [eE]; exact c4⟩]; exact q
     ·refine o_fY 137 X28 hx hby o_d31_131 ((if0 _ _).trans (flt (mt (lw_gt _ _).mp c4)).2.2.2) ?_
      refine o_q T28 (o_f33 m 139 pp since frmL toL (0 : Int32) (since + (1 : Int64)) kp [(.long (since + (1 : Int64)))]) (fun _ k9 => XS.lload X28.here hx rfl (hb hby o_d31_137) rfl k9) ?_
      refine o_lC (1 : Int64) X28 hx hby o_d31_139 rfl ?_
      refine o_q T28 (o_f33 m 141 pp since frmL toL (0 : Int32) (since + (1 : Int64)) kp [(.long ((since + (1 : Int64)) + (1 : Int64)))]) (fun _ k9 => XS.ladd X28.here hx rfl (hb hby o_d31_140) rfl k9) ?_
      refine o_q T28 (o_f33 m 143 pp since frmL toL (0 : Int32) ((since + (1 : Int64)) + (1 : Int64)) kp []) (fun _ k9 => XS.lstore X28.here hx rfl (hb hby o_d31_141) rfl (l' := (o_t33 pp since frmL toL (0 : Int32) ((since + (1 : Int64)) + (1 : Int64)) kp)) rfl k9) ?_
      refine o_go 58 X28 hx hby o_d31_143 ?_
      have hv31 : (((since + (1 : Int64)) + (1 : Int64))).toInt = ((sn + 2 : Nat) : Int) := by
       have r1 := rng64 since
       have k2 : (1 : Int64).toInt = 1 := by decide
       have e3 := c_ladd (since) ((1 : Int64))
       have r3 := rng64 ((since + (1 : Int64)))
       rw [show (1 : Int64).toInt = 1 from by decide] at e3
       have e4 := c_ladd ((since + (1 : Int64))) ((1 : Int64))
       have r4 := rng64 (((since + (1 : Int64)) + (1 : Int64)))
       rw [show (1 : Int64).toInt = 1 from by decide] at e4
       omega
      have GL := o_since_loop Z a0 hw n0 pp rc ru wa tm fr tl la L ch gb xs fs rs since frmL toL cn sn h0 hPk hc hs h1 h2 hx hby hml hZ hown hret hlk (cn - sn - 1) ((since + (1 : Int64)) + (1 : Int64)) (sn + 2) (0 : Int32) kp X28 e28 hv31 (by omega)
      refine o_mono (fun v h Ls q => ?_) GL
      rw [o_cs, if_neg nsc, if_neg n8, show cn - sn = (cn - sn - 1) + 1 by omega, o_sc, if_neg (fun q => c2 (by have y := q.1; rw [eF] at y; exact y)), if_neg (fun q => c4 (by have y := q.2.2; rw [eE] at y; exact y))]; exact q
    ·refine o_fY 137 X26 hx hby o_d31_117 ((if0 _ _).trans (flt (mt (lw_lt _ _).mp c3)).2.1) ?_
     refine o_q T26 (o_f33 m 139 pp since frmL toL (0 : Int32) (since + (1 : Int64)) kp [(.long (since + (1 : Int64)))]) (fun _ k9 => XS.lload X26.here hx rfl (hb hby o_d31_137) rfl k9) ?_
     refine o_lC (1 : Int64) X26 hx hby o_d31_139 rfl ?_
     refine o_q T26 (o_f33 m 141 pp since frmL toL (0 : Int32) (since + (1 : Int64)) kp [(.long ((since + (1 : Int64)) + (1 : Int64)))]) (fun _ k9 => XS.ladd X26.here hx rfl (hb hby o_d31_140) rfl k9) ?_
     refine o_q T26 (o_f33 m 143 pp since frmL toL (0 : Int32) ((since + (1 : Int64)) + (1 : Int64)) kp []) (fun _ k9 => XS.lstore X26.here hx rfl (hb hby o_d31_141) rfl (l' := (o_t33 pp since frmL toL (0 : Int32) ((since + (1 : Int64)) + (1 : Int64)) kp)) rfl k9) ?_
     refine o_go 58 X26 hx hby o_d31_143 ?_
     have hv32 : (((since + (1 : Int64)) + (1 : Int64))).toInt = ((sn + 2 : Nat) : Int) := by
      have r1 := rng64 since
      have k2 : (1 : Int64).toInt = 1 := by decide
      have e3 := c_ladd (since) ((1 : Int64))
      have r3 := rng64 ((since + (1 : Int64)))
      rw [show (1 : Int64).toInt = 1 from by decide] at e3
      have e4 := c_ladd ((since + (1 : Int64))) ((1 : Int64))
      have r4 := rng64 (((since + (1 : Int64)) + (1 : Int64)))
      rw [show (1 : Int64).toInt = 1 from by decide] at e4
      omega
     have GL := o_since_loop Z a0 hw n0 pp rc ru wa tm fr tl la L ch gb xs fs rs since frmL toL cn sn h0 hPk hc hs h1 h2 hx hby hml hZ hown hret hlk (cn - sn - 1) ((since + (1 : Int64)) + (1 : Int64)) (sn + 2) (0 : Int32) kp X26 e26 hv32 (by omega)
     refine o_mono (fun v h Ls q => ?_) GL
     rw [o_cs, if_neg nsc, if_neg n8, show cn - sn = (cn - sn - 1) + 1 by omega, o_sc, if_neg (fun q => c2 (by have y := q.1; rw [eF] at y; exact y)), if_neg (fun q => c3 (by have y := q.2.1; rw [eA] at y; exact y))]; exact q
def o_Tab (st : Int64) (k : Int32) (n : Nat) (rs : Nat → Int64) (gb : Int64) : Prop :=
 (∀ i, i < n → rs (3 * ((i + 2) % 8)) = o_sa st (Int32.ofNat i) ∧ rs (3 * ((i + 2) % 8) + 1) = o_en st (Int32.ofNat i) ∧ rs (3 * ((i + 2) % 8) + 2) = (if o_rl k (Int32.ofNat i) = (0 : Int32) then (0 : Int64) else (1 : Int64))) ∧
 ((gb = 0 ∧ ∀ i, i < n → o_rl k (Int32.ofNat i) = (0 : Int32)) ∨ (0 < gb.toInt ∧ ∃ i, i < n ∧ ¬ o_rl k (Int32.ofNat i) = (0 : Int32)))
theorem o_Tab0 (st : Int64) (k : Int32) (rs : Nat → Int64) : o_Tab st k 0 rs 0 := ⟨fun i h => absurd h (Nat.not_lt_zero i), Or.inl ⟨rfl, fun i h => absurd h (Nat.not_lt_zero i)⟩⟩
theorem o_TabS {st : Int64} {k i : Int32} {n : Nat} {rs rs' : Nat → Int64} {gb gb' ch : Int64} (hn : n < 8) (hi : i = Int32.ofNat n) (hch : 0 < (ch + (1 : Int64)).toInt) (TB : o_Tab st k n rs gb) (h1 : rs' = o_put rs (n + 1 + 1) (o_sa st i) (o_en st i) (if o_rl k i = (0 : Int32) then (0 : Int64) else (1 : Int64)))
  (h2 : gb' = if o_rl k i = (0 : Int32) then gb else (ch + (1 : Int64))) : o_Tab st k (n + 1) rs' gb' := by
 subst hi h1 h2
 obtain ⟨a, b⟩ := TB
 refine ⟨fun j hj => ?_, ?_⟩
 ·rcases Nat.lt_or_ge j n with z | z
  ·obtain ⟨a1, a2, a3⟩ := a j z
   unfold o_put
   refine ⟨?_, ?_, ?_⟩
   ·rw [if_neg (by omega), if_neg (by omega), if_neg (by omega)]; exact a1
   ·rw [if_neg (by omega), if_neg (by omega), if_neg (by omega)]; exact a2
   ·rw [if_neg (by omega), if_neg (by omega), if_neg (by omega)]; exact a3
  ·obtain rfl : j = n := by omega
   unfold o_put
   refine ⟨?_, ?_, ?_⟩
   ·rw [if_neg (by omega), if_neg (by omega), if_pos rfl]
   ·rw [if_neg (by omega), if_pos rfl]
   ·rw [if_pos rfl]
 ·by_cases q : o_rl k (Int32.ofNat n) = (0 : Int32)
  ·rw [if_pos q]
   rcases b with ⟨b1, b2⟩ | ⟨b1, j, b2, b3⟩
   ·refine Or.inl ⟨b1, fun j hj => ?_⟩
    rcases Nat.lt_or_ge j n with z | z
    ·exact b2 j z
    ·obtain rfl : j = n := by omega
     exact q
   ·exact Or.inr ⟨b1, j, by omega, b3⟩
  ·rw [if_neg q]
   exact Or.inr ⟨hch, n, by omega, q⟩
abbrev o_RB (st : Int64) (k : Int32) (sn : Int32) (frm : Int64) (i : Nat) : Prop := sn.toInt < (i : Int) + 2 ∧ ¬ o_rl k (Int32.ofNat i) = (0 : Int32) ∧ o_sa st (Int32.ofNat i) < frm
abbrev o_BO (st : Int64) (k : Int32) (sn : Int32) (frm to_ : Int64) (i : Nat) : Prop := sn.toInt < (i : Int) + 2 ∧ o_rl k (Int32.ofNat i) = (0 : Int32) ∧ o_sa st (Int32.ofNat i) < to_ ∧ frm < o_en st (Int32.ofNat i)
theorem o_i2 (sn i : Int32) (n : Nat) (hn : n < 8) (hi : i = Int32.ofNat n) : sn < (i + (2 : Int32)) ↔ sn.toInt < (n : Int) + 2 := by
 have e := c_iadd i (2 : Int32)
 have r := rng32 (i + (2 : Int32))
 rw [show (2 : Int32).toInt = 2 from by decide] at e
 have q : i.toInt = n := by subst hi; rw [Int32.toInt_ofNat_of_lt (by omega)]
 rw [Int32.lt_iff_toInt_lt]
 omega
theorem o_rb1 {st : Int64} {k i sn : Int32} {frm : Int64} {n : Nat} (hn : n < 8) (hi : i = Int32.ofNat n) (h : ¬ o_rb st k i sn frm = (0 : Int32)) : o_RB st k sn frm n := by
 unfold o_rb at h
 by_cases a : sn < (i + (2 : Int32))
 ·rw [if_pos a] at h
  by_cases b : o_rl k i = (0 : Int32)
  ·rw [if_pos b] at h; exact absurd rfl h
  ·rw [if_neg b] at h
   by_cases d : o_sa st i < frm
   ·exact ⟨(o_i2 sn i n hn hi).mp a, hi ▸ b, hi ▸ d⟩
   ·rw [if_neg d] at h; exact absurd rfl h
 ·rw [if_neg a] at h; exact absurd rfl h
theorem o_rb0 {st : Int64} {k i sn : Int32} {frm : Int64} {n : Nat} (hn : n < 8) (hi : i = Int32.ofNat n) (h : o_rb st k i sn frm = (0 : Int32)) : ¬ o_RB st k sn frm n := fun ⟨a, b, d⟩ => by
 subst hi
 unfold o_rb at h
 rw [if_pos ((o_i2 sn _ n hn rfl).mpr a), if_neg b, if_pos d] at h
 exact absurd h (by decide)
theorem o_bo1 {st : Int64} {k i sn : Int32} {frm to_ : Int64} {n : Nat} (hn : n < 8) (hi : i = Int32.ofNat n) (h : ¬ o_bo st k i sn frm to_ = (0 : Int32)) : o_BO st k sn frm to_ n := by
 unfold o_bo at h
 by_cases a : sn < (i + (2 : Int32))
 ·rw [if_pos a] at h
  by_cases b : o_rl k i = (0 : Int32)
  ·rw [if_pos b] at h
   by_cases d : o_sa st i < to_
   ·rw [if_pos d] at h
    by_cases f : frm < o_en st i
    ·exact ⟨(o_i2 sn i n hn hi).mp a, hi ▸ b, hi ▸ d, hi ▸ f⟩
    ·rw [if_neg f] at h; exact absurd rfl h
   ·rw [if_neg d] at h; exact absurd rfl h
  ·rw [if_neg b] at h; exact absurd rfl h
 ·rw [if_neg a] at h; exact absurd rfl h
theorem o_bo0 {st : Int64} {k i sn : Int32} {frm to_ : Int64} {n : Nat} (hn : n < 8) (hi : i = Int32.ofNat n) (h : o_bo st k i sn frm to_ = (0 : Int32)) : ¬ o_BO st k sn frm to_ n := fun ⟨a, b, d, f⟩ => by
 subst hi
 unfold o_bo at h
 rw [if_pos ((o_i2 sn _ n hn rfl).mpr a), if_pos b, if_pos d, if_pos f] at h
 exact absurd h (by decide)
theorem o_Aof {st : Int64} {k sn : Int32} {rs : Nat → Int64} {gb frm : Int64} (TB : o_Tab st k 8 rs gb) (h0 : 0 ≤ sn.toInt) (d : Nat) (h1 : 1 ≤ sn.toInt) (h2 : sn.toNatClampNeg + 1 ≤ d) (h3 : d < 10) : o_cA rs frm d ↔ o_RB st k sn frm (d - 2) := by
 have e := o_nat sn h0
 obtain ⟨a1, a2, a3⟩ := TB.1 (d - 2) (by omega)
 rw [show d - 2 + 2 = d by omega] at a1 a2 a3
 unfold o_cA o_RB
 rw [a1, a3]
 constructor
 ·intro ⟨u, v⟩
  refine ⟨by omega, fun q => ?_, v⟩
  rw [if_pos q] at u; exact absurd u (by decide)
 ·intro ⟨_, u, v⟩
  exact ⟨by rw [if_neg u], v⟩
theorem o_Bof {st : Int64} {k sn : Int32} {rs : Nat → Int64} {gb frm to_ : Int64} (TB : o_Tab st k 8 rs gb) (h0 : 0 ≤ sn.toInt) (d : Nat) (h1 : 1 ≤ sn.toInt) (h2 : sn.toNatClampNeg + 1 ≤ d) (h3 : d < 10) : o_cB rs frm to_ d ↔ o_BO st k sn frm to_ (d - 2) := by
 have e := o_nat sn h0
 obtain ⟨a1, a2, a3⟩ := TB.1 (d - 2) (by omega)
 rw [show d - 2 + 2 = d by omega] at a1 a2 a3
 unfold o_cB o_BO
 rw [a1, a2, a3]
 constructor
 ·intro ⟨u, v, w⟩
  refine ⟨by omega, ?_, v, w⟩
  by_cases q : o_rl k (Int32.ofNat (d - 2)) = (0 : Int32)
  ·exact q
  ·rw [if_neg q] at u; exact absurd rfl u
 ·intro ⟨_, u, v, w⟩
  exact ⟨by rw [if_pos u]; decide, v, w⟩
theorem o_csz {st : Int64} {k sn : Int32} {rs : Nat → Int64} {gb frm to_ : Int64} (TB : o_Tab st k 8 rs gb) (hs : sn = (0 : Int32)) : ((∃ i, i < 8 ∧ ¬ o_rl k (Int32.ofNat i) = (0 : Int32)) → o_cs rs gb frm to_ 9 sn.toNatClampNeg sn.toInt64 = 2) ∧ ((∀ i, i < 8 → o_rl k (Int32.ofNat i) = (0 : Int32)) → o_cs rs gb frm to_ 9 sn.toNatClampNeg sn.toInt64 = 1) := by
 subst hs
 have e : ((0 : Int32)).toInt64.toInt = 0 := by decide
 have z : o_cs rs gb frm to_ 9 (0 : Int32).toNatClampNeg ((0 : Int32)).toInt64 = if ((0 : Int32)).toInt64 < gb then 2 else 1 := by
  rw [show (0 : Int32).toNatClampNeg = 0 from rfl, o_cs, if_neg (by decide), if_pos (by decide)]
 rw [z]
 rcases TB.2 with ⟨b1, b2⟩ | ⟨b1, j, b2, b3⟩
 ·refine ⟨fun ⟨i, h1, h2⟩ => absurd (b2 i h1) h2, fun _ => ?_⟩
  subst b1
  rw [if_neg (by decide)]
 ·refine ⟨fun _ => ?_, fun h => absurd (h j b2) b3⟩
  rw [if_pos (by rw [Int64.lt_iff_toInt_lt, e]; exact b1)]
theorem o_csn {st : Int64} {k sn : Int32} {rs : Nat → Int64} {gb frm to_ : Int64} (TB : o_Tab st k 8 rs gb) (r0 : 0 ≤ sn.toInt ∧ sn.toInt < 10) (hs : ¬ sn = (0 : Int32)) :
  ((∃ i, i < 8 ∧ o_RB st k sn frm i) → o_cs rs gb frm to_ 9 sn.toNatClampNeg sn.toInt64 = 2) ∧ ((∀ i, i < 8 → ¬ o_RB st k sn frm i) → (∃ i, i < 8 ∧ o_BO st k sn frm to_ i) → o_cs rs gb frm to_ 9 sn.toNatClampNeg sn.toInt64 = 1) ∧ ((∀ i, i < 8 → ¬ o_RB st k sn frm i) → (∀ i, i < 8 → ¬ o_BO st k sn frm to_ i) → o_cs rs gb frm to_ 9 sn.toNatClampNeg sn.toInt64 = 0) := by
 have e := o_nat sn r0.1
 have p1 : 1 ≤ sn.toInt := by
  rcases Int.lt_or_le 0 sn.toInt with z | z
  ·exact z
  ·exact absurd (Int32.toInt_inj.mp ((show sn.toInt = 0 by omega).trans (by decide))) hs
 have n8 : ¬ 8 < 9 - sn.toNatClampNeg := by omega
 by_cases n9 : sn.toNatClampNeg = 9
 ·have no : ∀ i, i < 8 → ¬ o_RB st k sn frm i := fun i hi q => by have := q.1; omega
  have nb : ∀ i, i < 8 → ¬ o_BO st k sn frm to_ i := fun i hi q => by have := q.1; omega
  refine ⟨fun ⟨i, a, b⟩ => absurd b (no i a), fun _ ⟨i, a, b⟩ => absurd b (nb i a), fun _ _ => ?_⟩
  rw [o_cs, if_pos n9]
 ·rw [o_cs, if_neg n9, if_neg n8]
  refine ⟨fun ⟨i, a, b⟩ => ?_, fun hn ⟨i, a, b⟩ => ?_, fun hn hb => ?_⟩
  ·exact o_sc2 rs frm to_ _ _ _ (i + 2) (by have := b.1; omega) (by omega) ((o_Aof TB r0.1 (i + 2) p1 (by have := b.1; omega) (by omega)).mpr (by rw [show i + 2 - 2 = i by omega]; exact b))
  ·refine o_sc1 rs frm to_ _ _ _ (fun d h1 h2 h3 => hn (d - 2) (by omega) ((o_Aof TB r0.1 d p1 h1 (by omega)).mp h3)) (Or.inr ⟨i + 2, by have := b.1; omega, by omega, (o_Bof TB r0.1 (i + 2) p1 (by have := b.1; omega) (by omega)).mpr (by rw [show i + 2 - 2 = i by omega]; exact b)⟩)
  ·exact o_sc0 rs frm to_ _ _ _ (fun d h1 h2 h3 => hn (d - 2) (by omega) ((o_Aof TB r0.1 d p1 h1 (by omega)).mp h3)) (fun d h1 h2 h3 => hb (d - 2) (by omega) ((o_Bof TB r0.1 d p1 h1 (by omega)).mp h3))
theorem o_upto {P : Nat → Prop} {n : Nat} (h : ∀ i, i < n → P i) (q : P n) : ∀ i, i < n + 1 → P i := fun i hi => by
 rcases Nat.lt_or_ge i n with z | z
 ·exact h i z
 ·obtain rfl : i = n := by omega
  exact q
theorem o_none {P : Nat → Prop} : ∀ i, i < 0 → P i := fun i h => absurd h (Nat.not_lt_zero i)
theorem o_pd17 : parseMethodDescriptor "(Lcom/example/gapwright/gapwright/profile/CpuProfile;JII)V" = some ⟨[(.object o_n1), .long, .int, .int], none⟩ := by decide +kernel
set_option maxRecDepth 65536 in
set_option maxHeartbeats 40000000 in
theorem o_applyX {p : Program} {l : Launch} {e : Env} {s : State} {m : MethodId} {args : Array Value} {below : List Frame} {meth : Method} {c : Code} {T : State} {locs : List Loc} {Z : State} {a0 : Array Value} {h : Heap} (hw : ∀ d ∈ tables_1, d.before a0 Z = true) (n0 : Nat) (pp rc ru wa tm fr : Addr) (tl la L : Int32) (ch gb : Int64) (xs : Nat → Int64) (fs : Nat → Int32) (rs : Nat → Int64) (st : Int64) (k i : Int32) (n : Nat) (lo hi lo1 hi1 : Int)
  (X : Stand p l e room_1 s m args below meth c T locs (6 + o_cL L) (66 + o_sL L)) (hx : p.tables.exec = Jvm.exec) (hZ : Z.Warmed39 s.vm) (eT : T.heap = h) (hown : s.vm.findClass o_n5 = some m.cls) (hP : o_Pr Z n0 pp rc ru wa tm fr tl la L ch gb xs fs rs h) (i1 : 1 ≤ tl.toInt) (i2 : tl.toInt ≤ L.toInt) (hL : L = 4 ∨ L = 8 ∨ L = 16 ∨ L = 32) (i3 : tl.toInt + 2 ≤ 32)
  (hn : n < 8) (hin : i = Int32.ofNat n) (hc : ch.toInt = ((n + 1 : Nat) : Int)) (Dm : o_D lo hi lo1 hi1 (-1)) (Dp : o_D lo hi lo1 hi1 1) (Sg : o_S lo hi tl.toNatClampNeg xs fs) (hz : xs 0 = (-9223372036854775808 : Int64)) (TB : o_Tab st k n rs gb) {g : JFrame} (hg : g.method = m) (hsize : g.locals.size = c.maxLocals) (hmr : g.monitorRoom = 0) (hs : g.stack = [.int i, .int k, .long st, .ref pp]) (hd : decode c.code g.pc = .ok (.invokestatic 31, 3)) :
  ∃ (T' : State) (h' : Heap) (Ls : List Loc) (tm' fr' : Addr) (tl' la' L' : Int32) (xs' : Nat → Int64) (fs' : Nat → Int32) (rs' : Nat → Int64) (gb' ch' : Int64), Stand p l e room_1 s m args below meth c T' (locs ++ Ls) (6 + o_cL L') (66 + o_sL L') ∧ T'.heap = h' ∧ Fr n0 Ls ∧ o_Pr Z n0 pp rc ru wa tm' fr' tl' la' L' ch' gb' xs' fs' rs' h' ∧ 1 ≤ tl'.toInt ∧ tl'.toInt ≤ tl.toInt + 2 ∧ tl'.toInt ≤ L'.toInt ∧ (L' = 4 ∨ L' = 8 ∨ L' = 16 ∨ L' = 32) ∧ xs' 0 = (-9223372036854775808 : Int64) ∧ o_S lo1 hi1 tl'.toNatClampNeg xs' fs' ∧ o_Tab st k (n + 1) rs' gb' ∧ ch'.toInt = ((n + 1 + 1 : Nat) : Int) ∧
   ∀ target, Steps p.tables e below (T'.setTop { g with pc := g.pc + 3, stack := [] }) target → Steps p.tables e below (T.setTop g) target := by
 have cl := o_cL_le L
 have k4 : (4 : Int32).toInt = 4 := by decide
 have k8 : (8 : Int32).toInt = 8 := by decide
 have k16 : (16 : Int32).toInt = 16 := by decide
 have k32 : (32 : Int32).toInt = 32 := by decide
 have l32 : L.toInt ≤ 32 := by rcases hL with rfl | rfl | rfl | rfl <;> omega
 have hch : (ch + (1 : Int64)).toInt = ((n + 1 + 1 : Nat) : Int) := by
  have e1 := c_ladd ch (1 : Int64)
  have r1 := rng64 (ch + (1 : Int64))
  rw [show (1 : Int64).toInt = 1 from by decide] at e1
  omega
 by_cases hgr : tl.toInt + 2 ≤ L.toInt
 ·obtain ⟨v, T1, L1, hQ, X1, st1⟩ := o_callS X hx hZ eT hown (o_m hw 120 rfl) (o_m hw 121 rfl) (by decide) (o_m hw 123 rfl) (o_m hw 122 rfl) (o_applyN l Z a0 hw n0 pp rc ru wa tm fr tl la L ch gb xs fs rs st k i (n + 1) lo hi lo1 hi1 h hP i1 i2 l32 hgr hc (by omega) Dm Dp Sg hz) hg hsize hmr (argsL := [.ref pp, .long st, .int k, .int i]) (rest := []) rfl (lenOf o_pd17 rfl) hs hd (o_b rfl) (o_b rfl) (by show _ + 0 ≤ 32; omega) (by show _ + 0 ≤ 320; omega)
  obtain ⟨tm', fr', tl', la', xs', fs', rfl, N, hR, z1, z2, z3, z4⟩ := hQ
  exact ⟨T1, _, L1, tm', fr', tl', la', L, xs', fs', _, _, _, X1, rfl, N, hR, z1, z2, by omega, hL, z3.trans hz, z4, o_TabS hn hin (by omega) TB rfl rfl, hch, st1⟩
 ·rcases hL with rfl | rfl | rfl | rfl
  all_goals try (exfalso; omega)
  ·obtain ⟨q1, q2, q3, q4⟩ := o_Lg (L := (4 : Int32)) (by decide)
   obtain ⟨v, T1, L1, hQ, X1, st1⟩ := o_callS X hx hZ eT hown (o_m hw 120 rfl) (o_m hw 121 rfl) (by decide) (o_m hw 123 rfl) (o_m hw 122 rfl) (o_applyG l Z a0 hw n0 pp rc ru wa tm fr tl la (4 : Int32) ch gb xs fs rs ((2 : Int32) * (4 : Int32)) st k i (n + 1) lo hi lo1 hi1 h hP i1 i2 (by omega) (by omega) rfl q1 q2 q3 q4 (by omega) hc (by omega) Dm Dp Sg hz) hg hsize hmr (argsL := [.ref pp, .long st, .int k, .int i]) (rest := []) rfl (lenOf o_pd17 rfl) hs hd (o_b rfl) (o_b rfl) (o_b rfl) (o_b rfl)
   obtain ⟨tm', fr', tl', la', xs', fs', rfl, N, hR, z1, z2, z3, z4⟩ := hQ
   exact ⟨T1, _, L1, tm', fr', tl', la', ((2 : Int32) * (4 : Int32)), xs', fs', _, _, _, X1.more (by decide) (by decide), rfl, N, hR, z1, z2, by omega, by decide, z3.trans hz, z4, o_TabS hn hin (by omega) TB rfl rfl, hch, st1⟩
  ·obtain ⟨q1, q2, q3, q4⟩ := o_Lg (L := (8 : Int32)) (by decide)
   obtain ⟨v, T1, L1, hQ, X1, st1⟩ := o_callS X hx hZ eT hown (o_m hw 120 rfl) (o_m hw 121 rfl) (by decide) (o_m hw 123 rfl) (o_m hw 122 rfl) (o_applyG l Z a0 hw n0 pp rc ru wa tm fr tl la (8 : Int32) ch gb xs fs rs ((2 : Int32) * (8 : Int32)) st k i (n + 1) lo hi lo1 hi1 h hP i1 i2 (by omega) (by omega) rfl q1 q2 q3 q4 (by omega) hc (by omega) Dm Dp Sg hz) hg hsize hmr (argsL := [.ref pp, .long st, .int k, .int i]) (rest := []) rfl (lenOf o_pd17 rfl) hs hd (o_b rfl) (o_b rfl) (o_b rfl) (o_b rfl)
   obtain ⟨tm', fr', tl', la', xs', fs', rfl, N, hR, z1, z2, z3, z4⟩ := hQ
   exact ⟨T1, _, L1, tm', fr', tl', la', ((2 : Int32) * (8 : Int32)), xs', fs', _, _, _, X1.more (by decide) (by decide), rfl, N, hR, z1, z2, by omega, by decide, z3.trans hz, z4, o_TabS hn hin (by omega) TB rfl rfl, hch, st1⟩
  ·obtain ⟨q1, q2, q3, q4⟩ := o_Lg (L := (16 : Int32)) (by decide)
   obtain ⟨v, T1, L1, hQ, X1, st1⟩ := o_callS X hx hZ eT hown (o_m hw 120 rfl) (o_m hw 121 rfl) (by decide) (o_m hw 123 rfl) (o_m hw 122 rfl) (o_applyG l Z a0 hw n0 pp rc ru wa tm fr tl la (16 : Int32) ch gb xs fs rs ((2 : Int32) * (16 : Int32)) st k i (n + 1) lo hi lo1 hi1 h hP i1 i2 (by omega) (by omega) rfl q1 q2 q3 q4 (by omega) hc (by omega) Dm Dp Sg hz) hg hsize hmr (argsL := [.ref pp, .long st, .int k, .int i]) (rest := []) rfl (lenOf o_pd17 rfl) hs hd (o_b rfl) (o_b rfl) (o_b rfl) (o_b rfl)
   obtain ⟨tm', fr', tl', la', xs', fs', rfl, N, hR, z1, z2, z3, z4⟩ := hQ
   exact ⟨T1, _, L1, tm', fr', tl', la', ((2 : Int32) * (16 : Int32)), xs', fs', _, _, _, X1.more (by decide) (by decide), rfl, N, hR, z1, z2, by omega, by decide, z3.trans hz, z4, o_TabS hn hin (by omega) TB rfl rfl, hch, st1⟩
theorem o_pd15 : parseMethodDescriptor "(JJJ)I" = some ⟨[.long, .long, .long], some .int⟩ := by decide +kernel
set_option maxRecDepth 65536 in
set_option maxHeartbeats 40000000 in
theorem o_Ti {p : Program} {l : Launch} {e : Env} {s : State} {m : MethodId} {below : List Frame} {meth : Method} {c : Code} (Z : State) (a0 : Array Value) (hw : ∀ d ∈ tables_1, d.before a0 Z = true) (n0 : Nat) (x y st : Int64) (k : Int32) (pp rc ru wa tm fr : Addr) (tl la L : Int32) (ch gb : Int64) (xs : Nat → Int64) (fs : Nat → Int32) (rs : Nat → Int64) (frm to_ : Int64) (sn ex an : Int32)
  (hx : p.tables.exec = Jvm.exec) (hby : c.code = code) (hml : c.maxLocals = maxLocals) (hZ : Z.Warmed39 s.vm) (hown : s.vm.findClass o_n5 = some m.cls) (hret : meth.sig.returnType = ret) (hlk : meth.locks = false) {T : State} {locs : List Loc} {hh : Heap} (X0 : Stand p l e room_1 s m #[(.long x), (.long y), (.long st), (.int k)] below meth c T locs 12 258) (e0 : T.heap = hh) (NL : Fr n0 locs) (hP : o_Pr Z n0 pp rc ru wa tm fr tl la L ch gb xs fs rs hh) (hc : ch.toInt = ((9 : Nat) : Int)) (TB : o_Tab st k 8 rs gb) (r0 : 0 ≤ sn.toInt ∧ sn.toInt < 10) (hex : o_cs rs gb frm to_ 9 sn.toNatClampNeg sn.toInt64 = ex) :
  o_G p e below s (fun v h L => v = some (.int (1 : Int32)) ∧ Fr n0 L) 32 320 T (o_f37 m 514 x y st k frm to_ sn pp ex an []) := by
 have hPk := hP
 refine o_q T (o_f37 m 516 x y st k frm to_ sn pp ex an [(.ref pp)]) (fun _ k9 => XS.aload X0.here hx rfl (hb hby at_514) rfl rfl k9) ?_
 refine o_q T (o_f37 m 518 x y st k frm to_ sn pp ex an [(.int sn), (.ref pp)]) (fun _ k9 => XS.iload X0.here hx rfl (hb hby at_516) rfl k9) ?_
 refine o_q T (o_f37 m 519 x y st k frm to_ sn pp ex an [(.long (sn).toInt64), (.ref pp)]) (fun _ k9 => XS.i2l X0.here hx rfl (hb hby at_518) rfl k9) ?_
 refine o_q T (o_f37 m 521 x y st k frm to_ sn pp ex an [(.long frm), (.long (sn).toInt64), (.ref pp)]) (fun _ k9 => XS.lload X0.here hx rfl (hb hby at_519) rfl k9) ?_
 refine o_q T (o_f37 m 523 x y st k frm to_ sn pp ex an [(.long to_), (.long frm), (.long (sn).toInt64), (.ref pp)]) (fun _ k9 => XS.lload X0.here hx rfl (hb hby at_521) rfl k9) ?_
 have hs0 : ((sn).toInt64).toInt = ((sn.toNatClampNeg : Nat) : Int) := (c_i2l sn).trans (o_nat sn r0.1).symm
 have hs1 : sn.toNatClampNeg ≤ 9 := by have := o_nat sn r0.1; omega
 obtain ⟨v1, T1, L1, hQ1, X1, st1⟩ := o_callV X0 hx hZ e0 hown (o_m hw 171 rfl) (o_m hw 172 rfl) (o_m hw 174 rfl) (o_m hw 173 rfl) (by decide) (b := pp) hPk.1 (o_m hw 175 rfl) (o_m hw 9 rfl) (o_since l Z a0 hw n0 pp rc ru wa tm fr tl la L ch gb xs fs rs ((sn).toInt64) frm to_ 9 sn.toNatClampNeg hh hPk hc hs0 hs1 (by decide)) (g := (o_f37 m 523 x y st k frm to_ sn pp ex an [(.long to_), (.long frm), (.long (sn).toInt64), (.ref pp)])) rfl (by rw [hml]; rfl) rfl (argsL := [(.long (sn).toInt64), (.long frm), (.long to_)]) (rest := []) rfl (lenOf o_pd15 rfl) rfl (hb hby at_523) (o_b rfl) (o_b rfl) (o_b rfl) (o_b rfl)
 obtain ⟨rfl, rfl, e1⟩ := hQ1
 rw [List.append_nil] at X1
 rw [show ((sn).toInt64) = sn.toInt64 from rfl, hex] at st1
 refine o_q T1 (o_f37 m 526 x y st k frm to_ sn pp ex an [(.int ex)]) st1 ?_
 refine o_q T1 (o_f37 m 528 x y st k frm to_ sn pp ex an [(.int ex), (.int ex)]) (fun _ k9 => XS.iload X1.here hx rfl (hb hby at_526) rfl k9) ?_
 refine o_cN X1 hx hby at_528 (teq (rfl : ex = ex)).2 ?_
 refine o_iC (1 : Int32) X1 hx hby at_531 rfl ?_
 refine o_go 536 X1 hx hby at_532 ?_
 exact o_retN X1 hx hlk (t := .boolean) hret (by simp) (hb hby at_536) ⟨rfl, NL⟩ (by decide) (by decide)
set_option maxRecDepth 65536 in
set_option maxHeartbeats 40000000 in
theorem o_Tu {p : Program} {l : Launch} {e : Env} {s : State} {m : MethodId} {below : List Frame} {meth : Method} {c : Code} (Z : State) (a0 : Array Value) (hw : ∀ d ∈ tables_1, d.before a0 Z = true) (n0 : Nat) (x y st : Int64) (k : Int32) (pp rc ru wa tm fr : Addr) (tl la L : Int32) (ch gb : Int64) (xs : Nat → Int64) (fs : Nat → Int32) (rs : Nat → Int64) (frm to_ : Int64) (sn ex : Int32)
  (hx : p.tables.exec = Jvm.exec) (hby : c.code = code) (hml : c.maxLocals = maxLocals) (hZ : Z.Warmed39 s.vm) (hown : s.vm.findClass o_n5 = some m.cls) (hret : meth.sig.returnType = ret) (hlk : meth.locks = false) {T : State} {locs : List Loc} {hh : Heap} (X0 : Stand p l e room_1 s m #[(.long x), (.long y), (.long st), (.int k)] below meth c T locs 12 258) (e0 : T.heap = hh) (NL : Fr n0 locs) (hP : o_Pr Z n0 pp rc ru wa tm fr tl la L ch gb xs fs rs hh) (hc : ch.toInt = ((9 : Nat) : Int)) (TB : o_Tab st k 8 rs gb) (r0 : 0 ≤ sn.toInt ∧ sn.toInt < 10) (hex : o_cs rs gb frm to_ 9 sn.toNatClampNeg sn.toInt64 = ex) :
  o_G p e below s (fun v h L => v = some (.int (1 : Int32)) ∧ Fr n0 L) 32 320 T (o_f38 m 514 x y st k frm to_ sn pp ex []) := by
 have hPk := hP
 refine o_q T (o_f38 m 516 x y st k frm to_ sn pp ex [(.ref pp)]) (fun _ k9 => XS.aload X0.here hx rfl (hb hby at_514) rfl rfl k9) ?_
 refine o_q T (o_f38 m 518 x y st k frm to_ sn pp ex [(.int sn), (.ref pp)]) (fun _ k9 => XS.iload X0.here hx rfl (hb hby at_516) rfl k9) ?_
 refine o_q T (o_f38 m 519 x y st k frm to_ sn pp ex [(.long (sn).toInt64), (.ref pp)]) (fun _ k9 => XS.i2l X0.here hx rfl (hb hby at_518) rfl k9) ?_
 refine o_q T (o_f38 m 521 x y st k frm to_ sn pp ex [(.long frm), (.long (sn).toInt64), (.ref pp)]) (fun _ k9 => XS.lload X0.here hx rfl (hb hby at_519) rfl k9) ?_
 refine o_q T (o_f38 m 523 x y st k frm to_ sn pp ex [(.long to_), (.long frm), (.long (sn).toInt64), (.ref pp)]) (fun _ k9 => XS.lload X0.here hx rfl (hb hby at_521) rfl k9) ?_
 have hs0 : ((sn).toInt64).toInt = ((sn.toNatClampNeg : Nat) : Int) := (c_i2l sn).trans (o_nat sn r0.1).symm
 have hs1 : sn.toNatClampNeg ≤ 9 := by have := o_nat sn r0.1; omega
 obtain ⟨v1, T1, L1, hQ1, X1, st1⟩ := o_callV X0 hx hZ e0 hown (o_m hw 171 rfl) (o_m hw 172 rfl) (o_m hw 174 rfl) (o_m hw 173 rfl) (by decide) (b := pp) hPk.1 (o_m hw 175 rfl) (o_m hw 9 rfl) (o_since l Z a0 hw n0 pp rc ru wa tm fr tl la L ch gb xs fs rs ((sn).toInt64) frm to_ 9 sn.toNatClampNeg hh hPk hc hs0 hs1 (by decide)) (g := (o_f38 m 523 x y st k frm to_ sn pp ex [(.long to_), (.long frm), (.long (sn).toInt64), (.ref pp)])) rfl (by rw [hml]; rfl) rfl (argsL := [(.long (sn).toInt64), (.long frm), (.long to_)]) (rest := []) rfl (lenOf o_pd15 rfl) rfl (hb hby at_523) (o_b rfl) (o_b rfl) (o_b rfl) (o_b rfl)
 obtain ⟨rfl, rfl, e1⟩ := hQ1
 rw [List.append_nil] at X1
 rw [show ((sn).toInt64) = sn.toInt64 from rfl, hex] at st1
 refine o_q T1 (o_f38 m 526 x y st k frm to_ sn pp ex [(.int ex)]) st1 ?_
 refine o_q T1 (o_f38 m 528 x y st k frm to_ sn pp ex [(.int ex), (.int ex)]) (fun _ k9 => XS.iload X1.here hx rfl (hb hby at_526) rfl k9) ?_
 refine o_cN X1 hx hby at_528 (teq (rfl : ex = ex)).2 ?_
 refine o_iC (1 : Int32) X1 hx hby at_531 rfl ?_
 refine o_go 536 X1 hx hby at_532 ?_
 exact o_retN X1 hx hlk (t := .boolean) hret (by simp) (hb hby at_536) ⟨rfl, NL⟩ (by decide) (by decide)
theorem o_pd11 : parseMethodDescriptor "(JIIIJ)Z" = some ⟨[.long, .int, .int, .int, .long], some .boolean⟩ := by decide +kernel
theorem o_pd12 : parseMethodDescriptor "(JIIIJJ)Z" = some ⟨[.long, .int, .int, .int, .long, .long], some .boolean⟩ := by decide +kernel
set_option maxRecDepth 65536 in
set_option maxHeartbeats 40000000 in
theorem o_N2 {p : Program} {l : Launch} {e : Env} {s : State} {m : MethodId} {below : List Frame} {meth : Method} {c : Code} (Z : State) (a0 : Array Value) (hw : ∀ d ∈ tables_1, d.before a0 Z = true) (n0 : Nat) (x y st : Int64) (k : Int32) (pp rc ru wa tm fr : Addr) (tl la L : Int32) (ch gb : Int64) (xs : Nat → Int64) (fs : Nat → Int32) (rs : Nat → Int64) (frm to_ : Int64) (sn : Int32)
  (hx : p.tables.exec = Jvm.exec) (hby : c.code = code) (hml : c.maxLocals = maxLocals) (hZ : Z.Warmed39 s.vm) (hown : s.vm.findClass o_n5 = some m.cls) (hret : meth.sig.returnType = ret) (hlk : meth.locks = false) {T : State} {locs : List Loc} {hh : Heap} (X0 : Stand p l e room_1 s m #[(.long x), (.long y), (.long st), (.int k)] below meth c T locs 12 258) (e0 : T.heap = hh) (NL : Fr n0 locs) (hP : o_Pr Z n0 pp rc ru wa tm fr tl la L ch gb xs fs rs hh) (hc : ch.toInt = ((9 : Nat) : Int)) (TB : o_Tab st k 8 rs gb) (r0 : 0 ≤ sn.toInt ∧ sn.toInt < 10) (hs0 : ¬ sn = (0 : Int32)) (hr : ∀ i, i < 8 → ¬ o_RB st k sn frm i) :
  o_G p e below s (fun v h L => v = some (.int (1 : Int32)) ∧ Fr n0 L) 32 320 T (o_f39 m 367 x y st k frm to_ sn pp []) := by
 refine o_q T (o_f39 m 369 x y st k frm to_ sn pp [(.long st)]) (fun _ k9 => XS.lload X0.here hx rfl (hb hby at_367) rfl k9) ?_
 refine o_q T (o_f39 m 371 x y st k frm to_ sn pp [(.int k), (.long st)]) (fun _ k9 => XS.iload X0.here hx rfl (hb hby at_369) rfl k9) ?_
 refine o_iC (0 : Int32) X0 hx hby at_371 rfl ?_
 refine o_q T (o_f39 m 374 x y st k frm to_ sn pp [(.int sn), (.int (0 : Int32)), (.int k), (.long st)]) (fun _ k9 => XS.iload X0.here hx rfl (hb hby at_372) rfl k9) ?_
 refine o_q T (o_f39 m 376 x y st k frm to_ sn pp [(.long frm), (.int sn), (.int (0 : Int32)), (.int k), (.long st)]) (fun _ k9 => XS.lload X0.here hx rfl (hb hby at_374) rfl k9) ?_
 refine o_q T (o_f39 m 378 x y st k frm to_ sn pp [(.long to_), (.long frm), (.int sn), (.int (0 : Int32)), (.int k), (.long st)]) (fun _ k9 => XS.lload X0.here hx rfl (hb hby at_376) rfl k9) ?_
 obtain ⟨v1, T1, L1, hQ1, X1, st1⟩ := o_callS X0 hx hZ e0 hown (o_m hw 168 rfl) (o_m hw 169 rfl) (by decide) (o_m hw 170 rfl) (o_m hw 122 rfl) (o_c_bookOver l Z a0 hw st k (0 : Int32) sn frm to_ hh) (g := (o_f39 m 378 x y st k frm to_ sn pp [(.long to_), (.long frm), (.int sn), (.int (0 : Int32)), (.int k), (.long st)])) rfl (by rw [hml]; rfl) rfl (argsL := [(.long st), (.int k), (.int (0 : Int32)), (.int sn), (.long frm), (.long to_)]) (rest := []) rfl (lenOf o_pd12 rfl) rfl (hb hby at_378) (o_b rfl) (o_b rfl) (o_b rfl) (o_b rfl)
 obtain ⟨rfl, rfl, e1⟩ := hQ1
 rw [List.append_nil] at X1
 refine o_q T1 (o_f39 m 381 x y st k frm to_ sn pp [(.int (o_bo st k (0 : Int32) sn frm to_))]) st1 ?_
 by_cases c0 : (o_bo st k (0 : Int32) sn frm to_) = (0 : Int32)
 ·refine o_fN X1 hx hby at_381 ((if0 _ _).trans (teq c0).2) ?_
  refine o_q T1 (o_f39 m 386 x y st k frm to_ sn pp [(.long st)]) (fun _ k9 => XS.lload X1.here hx rfl (hb hby at_384) rfl k9) ?_
  refine o_q T1 (o_f39 m 388 x y st k frm to_ sn pp [(.int k), (.long st)]) (fun _ k9 => XS.iload X1.here hx rfl (hb hby at_386) rfl k9) ?_
  refine o_iC (1 : Int32) X1 hx hby at_388 rfl ?_
  refine o_q T1 (o_f39 m 391 x y st k frm to_ sn pp [(.int sn), (.int (1 : Int32)), (.int k), (.long st)]) (fun _ k9 => XS.iload X1.here hx rfl (hb hby at_389) rfl k9) ?_
  refine o_q T1 (o_f39 m 393 x y st k frm to_ sn pp [(.long frm), (.int sn), (.int (1 : Int32)), (.int k), (.long st)]) (fun _ k9 => XS.lload X1.here hx rfl (hb hby at_391) rfl k9) ?_
  refine o_q T1 (o_f39 m 395 x y st k frm to_ sn pp [(.long to_), (.long frm), (.int sn), (.int (1 : Int32)), (.int k), (.long st)]) (fun _ k9 => XS.lload X1.here hx rfl (hb hby at_393) rfl k9) ?_
  obtain ⟨v2, T2, L2, hQ2, X2, st2⟩ := o_callS X1 hx hZ e1 hown (o_m hw 168 rfl) (o_m hw 169 rfl) (by decide) (o_m hw 170 rfl) (o_m hw 122 rfl) (o_c_bookOver l Z a0 hw st k (1 : Int32) sn frm to_ hh) (g := (o_f39 m 395 x y st k frm to_ sn pp [(.long to_), (.long frm), (.int sn), (.int (1 : Int32)), (.int k), (.long st)])) rfl (by rw [hml]; rfl) rfl (argsL := [(.long st), (.int k), (.int (1 : Int32)), (.int sn), (.long frm), (.long to_)]) (rest := []) rfl (lenOf o_pd12 rfl) rfl (hb hby at_395) (o_b rfl) (o_b rfl) (o_b rfl) (o_b rfl)
  obtain ⟨rfl, rfl, e2⟩ := hQ2
  rw [List.append_nil] at X2
  refine o_q T2 (o_f39 m 398 x y st k frm to_ sn pp [(.int (o_bo st k (1 : Int32) sn frm to_))]) st2 ?_
  by_cases c1 : (o_bo st k (1 : Int32) sn frm to_) = (0 : Int32)
  ·refine o_fN X2 hx hby at_398 ((if0 _ _).trans (teq c1).2) ?_
   refine o_q T2 (o_f39 m 403 x y st k frm to_ sn pp [(.long st)]) (fun _ k9 => XS.lload X2.here hx rfl (hb hby at_401) rfl k9) ?_
   refine o_q T2 (o_f39 m 405 x y st k frm to_ sn pp [(.int k), (.long st)]) (fun _ k9 => XS.iload X2.here hx rfl (hb hby at_403) rfl k9) ?_
   refine o_iC (2 : Int32) X2 hx hby at_405 rfl ?_
   refine o_q T2 (o_f39 m 408 x y st k frm to_ sn pp [(.int sn), (.int (2 : Int32)), (.int k), (.long st)]) (fun _ k9 => XS.iload X2.here hx rfl (hb hby at_406) rfl k9) ?_
   refine o_q T2 (o_f39 m 410 x y st k frm to_ sn pp [(.long frm), (.int sn), (.int (2 : Int32)), (.int k), (.long st)]) (fun _ k9 => XS.lload X2.here hx rfl (hb hby at_408) rfl k9) ?_
   refine o_q T2 (o_f39 m 412 x y st k frm to_ sn pp [(.long to_), (.long frm), (.int sn), (.int (2 : Int32)), (.int k), (.long st)]) (fun _ k9 => XS.lload X2.here hx rfl (hb hby at_410) rfl k9) ?_
   obtain ⟨v3, T3, L3, hQ3, X3, st3⟩ := o_callS X2 hx hZ e2 hown (o_m hw 168 rfl) (o_m hw 169 rfl) (by decide) (o_m hw 170 rfl) (o_m hw 122 rfl) (o_c_bookOver l Z a0 hw st k (2 : Int32) sn frm to_ hh) (g := (o_f39 m 412 x y st k frm to_ sn pp [(.long to_), (.long frm), (.int sn), (.int (2 : Int32)), (.int k), (.long st)])) rfl (by rw [hml]; rfl) rfl (argsL := [(.long st), (.int k), (.int (2 : Int32)), (.int sn), (.long frm), (.long to_)]) (rest := []) rfl (lenOf o_pd12 rfl) rfl (hb hby at_412) (o_b rfl) (o_b rfl) (o_b rfl) (o_b rfl)
   obtain ⟨rfl, rfl, e3⟩ := hQ3
   rw [List.append_nil] at X3
   refine o_q T3 (o_f39 m 415 x y st k frm to_ sn pp [(.int (o_bo st k (2 : Int32) sn frm to_))]) st3 ?_
   by_cases c2 : (o_bo st k (2 : Int32) sn frm to_) = (0 : Int32)
   ·refine o_fN X3 hx hby at_415 ((if0 _ _).trans (teq c2).2) ?_
    refine o_q T3 (o_f39 m 420 x y st k frm to_ sn pp [(.long st)]) (fun _ k9 => XS.lload X3.here hx rfl (hb hby at_418) rfl k9) ?_
    refine o_q T3 (o_f39 m 422 x y st k frm to_ sn pp [(.int k), (.long st)]) (fun _ k9 => XS.iload X3.here hx rfl (hb hby at_420) rfl k9) ?_
    refine o_iC (3 : Int32) X3 hx hby at_422 rfl ?_
    refine o_q T3 (o_f39 m 425 x y st k frm to_ sn pp [(.int sn), (.int (3 : Int32)), (.int k), (.long st)]) (fun _ k9 => XS.iload X3.here hx rfl (hb hby at_423) rfl k9) ?_
    refine o_q T3 (o_f39 m 427 x y st k frm to_ sn pp [(.long frm), (.int sn), (.int (3 : Int32)), (.int k), (.long st)]) (fun _ k9 => XS.lload X3.here hx rfl (hb hby at_425) rfl k9) ?_
    refine o_q T3 (o_f39 m 429 x y st k frm to_ sn pp [(.long to_), (.long frm), (.int sn), (.int (3 : Int32)), (.int k), (.long st)]) (fun _ k9 => XS.lload X3.here hx rfl (hb hby at_427) rfl k9) ?_
    obtain ⟨v4, T4, L4, hQ4, X4, st4⟩ := o_callS X3 hx hZ e3 hown (o_m hw 168 rfl) (o_m hw 169 rfl) (by decide) (o_m hw 170 rfl) (o_m hw 122 rfl) (o_c_bookOver l Z a0 hw st k (3 : Int32) sn frm to_ hh) (g := (o_f39 m 429 x y st k frm to_ sn pp [(.long to_), (.long frm), (.int sn), (.int (3 : Int32)), (.int k), (.long st)])) rfl (by rw [hml]; rfl) rfl (argsL := [(.long st), (.int k), (.int (3 : Int32)), (.int sn), (.long frm), (.long to_)]) (rest := []) rfl (lenOf o_pd12 rfl) rfl (hb hby at_429) (o_b rfl) (o_b rfl) (o_b rfl) (o_b rfl)
    obtain ⟨rfl, rfl, e4⟩ := hQ4
    rw [List.append_nil] at X4
    refine o_q T4 (o_f39 m 432 x y st k frm to_ sn pp [(.int (o_bo st k (3 : Int32) sn frm to_))]) st4 ?_
    by_cases c3 : (o_bo st k (3 : Int32) sn frm to_) = (0 : Int32)
    ·refine o_fN X4 hx hby at_432 ((if0 _ _).trans (teq c3).2) ?_
     refine o_q T4 (o_f39 m 437 x y st k frm to_ sn pp [(.long st)]) (fun _ k9 => XS.lload X4.here hx rfl (hb hby at_435) rfl k9) ?_
     refine o_q T4 (o_f39 m 439 x y st k frm to_ sn pp [(.int k), (.long st)]) (fun _ k9 => XS.iload X4.here hx rfl (hb hby at_437) rfl k9) ?_
     refine o_iC (4 : Int32) X4 hx hby at_439 rfl ?_
     refine o_q T4 (o_f39 m 442 x y st k frm to_ sn pp [(.int sn), (.int (4 : Int32)), (.int k), (.long st)]) (fun _ k9 => XS.iload X4.here hx rfl (hb hby at_440) rfl k9) ?_
     refine o_q T4 (o_f39 m 444 x y st k frm to_ sn pp [(.long frm), (.int sn), (.int (4 : Int32)), (.int k), (.long st)]) (fun _ k9 => XS.lload X4.here hx rfl (hb hby at_442) rfl k9) ?_
     refine o_q T4 (o_f39 m 446 x y st k frm to_ sn pp [(.long to_), (.long frm), (.int sn), (.int (4 : Int32)), (.int k), (.long st)]) (fun _ k9 => XS.lload X4.here hx rfl (hb hby at_444) rfl k9) ?_
     obtain ⟨v5, T5, L5, hQ5, X5, st5⟩ := o_callS X4 hx hZ e4 hown (o_m hw 168 rfl) (o_m hw 169 rfl) (by decide) (o_m hw 170 rfl) (o_m hw 122 rfl) (o_c_bookOver l Z a0 hw st k (4 : Int32) sn frm to_ hh) (g := (o_f39 m 446 x y st k frm to_ sn pp [(.long to_), (.long frm), (.int sn), (.int (4 : Int32)), (.int k), (.long st)])) rfl (by rw [hml]; rfl) rfl (argsL := [(.long st), (.int k), (.int (4 : Int32)), (.int sn), (.long frm), (.long to_)]) (rest := []) rfl (lenOf o_pd12 rfl) rfl (hb hby at_446) (o_b rfl) (o_b rfl) (o_b rfl) (o_b rfl)
     obtain ⟨rfl, rfl, e5⟩ := hQ5
     rw [List.append_nil] at X5
     refine o_q T5 (o_f39 m 449 x y st k frm to_ sn pp [(.int (o_bo st k (4 : Int32) sn frm to_))]) st5 ?_
     by_cases c4 : (o_bo st k (4 : Int32) sn frm to_) = (0 : Int32)
     ·refine o_fN X5 hx hby at_449 ((if0 _ _).trans (teq c4).2) ?_
      refine o_q T5 (o_f39 m 454 x y st k frm to_ sn pp [(.long st)]) (fun _ k9 => XS.lload X5.here hx rfl (hb hby at_452) rfl k9) ?_
      refine o_q T5 (o_f39 m 456 x y st k frm to_ sn pp [(.int k), (.long st)]) (fun _ k9 => XS.iload X5.here hx rfl (hb hby at_454) rfl k9) ?_
      refine o_iC (5 : Int32) X5 hx hby at_456 rfl ?_
      refine o_q T5 (o_f39 m 459 x y st k frm to_ sn pp [(.int sn), (.int (5 : Int32)), (.int k), (.long st)]) (fun _ k9 => XS.iload X5.here hx rfl (hb hby at_457) rfl k9) ?_
      refine o_q T5 (o_f39 m 461 x y st k frm to_ sn pp [(.long frm), (.int sn), (.int (5 : Int32)), (.int k), (.long st)]) (fun _ k9 => XS.lload X5.here hx rfl (hb hby at_459) rfl k9) ?_
      refine o_q T5 (o_f39 m 463 x y st k frm to_ sn pp [(.long to_), (.long frm), (.int sn), (.int (5 : Int32)), (.int k), (.long st)]) (fun _ k9 => XS.lload X5.here hx rfl (hb hby at_461) rfl k9) ?_
      obtain ⟨v6, T6, L6, hQ6, X6, st6⟩ := o_callS X5 hx hZ e5 hown (o_m hw 168 rfl) (o_m hw 169 rfl) (by decide) (o_m hw 170 rfl) (o_m hw 122 rfl) (o_c_bookOver l Z a0 hw st k (5 : Int32) sn frm to_ hh) (g := (o_f39 m 463 x y st k frm to_ sn pp [(.long to_), (.long frm), (.int sn), (.int (5 : Int32)), (.int k), (.long st)])) rfl (by rw [hml]; rfl) rfl (argsL := [(.long st), (.int k), (.int (5 : Int32)), (.int sn), (.long frm), (.long to_)]) (rest := []) rfl (lenOf o_pd12 rfl) rfl (hb hby at_463) (o_b rfl) (o_b rfl) (o_b rfl) (o_b rfl)
      obtain ⟨rfl, rfl, e6⟩ := hQ6
      rw [List.append_nil] at X6
      refine o_q T6 (o_f39 m 466 x y st k frm to_ sn pp [(.int (o_bo st k (5 : Int32) sn frm to_))]) st6 ?_
      by_cases c5 : (o_bo st k (5 : Int32) sn frm to_) = (0 : Int32)
      ·refine o_fN X6 hx hby at_466 ((if0 _ _).trans (teq c5).2) ?_
       refine o_q T6 (o_f39 m 471 x y st k frm to_ sn pp [(.long st)]) (fun _ k9 => XS.lload X6.here hx rfl (hb hby at_469) rfl k9) ?_
       refine o_q T6 (o_f39 m 473 x y st k frm to_ sn pp [(.int k), (.long st)]) (fun _ k9 => XS.iload X6.here hx rfl (hb hby at_471) rfl k9) ?_
       refine o_q T6 (o_f39 m 475 x y st k frm to_ sn pp [(.int (6 : Int32)), (.int k), (.long st)]) (fun _ k9 => XS.bipush X6.here hx rfl (hb hby at_473) k9) ?_
       refine o_q T6 (o_f39 m 477 x y st k frm to_ sn pp [(.int sn), (.int (6 : Int32)), (.int k), (.long st)]) (fun _ k9 => XS.iload X6.here hx rfl (hb hby at_475) rfl k9) ?_
       refine o_q T6 (o_f39 m 479 x y st k frm to_ sn pp [(.long frm), (.int sn), (.int (6 : Int32)), (.int k), (.long st)]) (fun _ k9 => XS.lload X6.here hx rfl (hb hby at_477) rfl k9) ?_
       refine o_q T6 (o_f39 m 481 x y st k frm to_ sn pp [(.long to_), (.long frm), (.int sn), (.int (6 : Int32)), (.int k), (.long st)]) (fun _ k9 => XS.lload X6.here hx rfl (hb hby at_479) rfl k9) ?_
       obtain ⟨v7, T7, L7, hQ7, X7, st7⟩ := o_callS X6 hx hZ e6 hown (o_m hw 168 rfl) (o_m hw 169 rfl) (by decide) (o_m hw 170 rfl) (o_m hw 122 rfl) (o_c_bookOver l Z a0 hw st k (6 : Int32) sn frm to_ hh) (g := (o_f39 m 481 x y st k frm to_ sn pp [(.long to_), (.long frm), (.int sn), (.int (6 : Int32)), (.int k), (.long st)])) rfl (by rw [hml]; rfl) rfl (argsL := [(.long st), (.int k), (.int (6 : Int32)), (.int sn), (.long frm), (.long to_)]) (rest := []) rfl (lenOf o_pd12 rfl) rfl (hb hby at_481) (o_b rfl) (o_b rfl) (o_b rfl) (o_b rfl)
       obtain ⟨rfl, rfl, e7⟩ := hQ7
       rw [List.append_nil] at X7
       refine o_q T7 (o_f39 m 484 x y st k frm to_ sn pp [(.int (o_bo st k (6 : Int32) sn frm to_))]) st7 ?_
       by_cases c6 : (o_bo st k (6 : Int32) sn frm to_) = (0 : Int32)
       ·refine o_fN X7 hx hby at_484 ((if0 _ _).trans (teq c6).2) ?_
        refine o_q T7 (o_f39 m 489 x y st k frm to_ sn pp [(.long st)]) (fun _ k9 => XS.lload X7.here hx rfl (hb hby at_487) rfl k9) ?_
        refine o_q T7 (o_f39 m 491 x y st k frm to_ sn pp [(.int k), (.long st)]) (fun _ k9 => XS.iload X7.here hx rfl (hb hby at_489) rfl k9) ?_
        refine o_q T7 (o_f39 m 493 x y st k frm to_ sn pp [(.int (7 : Int32)), (.int k), (.long st)]) (fun _ k9 => XS.bipush X7.here hx rfl (hb hby at_491) k9) ?_
        refine o_q T7 (o_f39 m 495 x y st k frm to_ sn pp [(.int sn), (.int (7 : Int32)), (.int k), (.long st)]) (fun _ k9 => XS.iload X7.here hx rfl (hb hby at_493) rfl k9) ?_
        refine o_q T7 (o_f39 m 497 x y st k frm to_ sn pp [(.long frm), (.int sn), (.int (7 : Int32)), (.int k), (.long st)]) (fun _ k9 => XS.lload X7.here hx rfl (hb hby at_495) rfl k9) ?_
        refine o_q T7 (o_f39 m 499 x y st k frm to_ sn pp [(.long to_), (.long frm), (.int sn), (.int (7 : Int32)), (.int k), (.long st)]) (fun _ k9 => XS.lload X7.here hx rfl (hb hby at_497) rfl k9) ?_
        obtain ⟨v8, T8, L8, hQ8, X8, st8⟩ := o_callS X7 hx hZ e7 hown (o_m hw 168 rfl) (o_m hw 169 rfl) (by decide) (o_m hw 170 rfl) (o_m hw 122 rfl) (o_c_bookOver l Z a0 hw st k (7 : Int32) sn frm to_ hh) (g := (o_f39 m 499 x y st k frm to_ sn pp [(.long to_), (.long frm), (.int sn), (.int (7 : Int32)), (.int k), (.long st)])) rfl (by rw [hml]; rfl) rfl (argsL := [(.long st), (.int k), (.int (7 : Int32)), (.int sn), (.long frm), (.long to_)]) (rest := []) rfl (lenOf o_pd12 rfl) rfl (hb hby at_499) (o_b rfl) (o_b rfl) (o_b rfl) (o_b rfl)
        obtain ⟨rfl, rfl, e8⟩ := hQ8
        rw [List.append_nil] at X8
        refine o_q T8 (o_f39 m 502 x y st k frm to_ sn pp [(.int (o_bo st k (7 : Int32) sn frm to_))]) st8 ?_
        by_cases c7 : (o_bo st k (7 : Int32) sn frm to_) = (0 : Int32)
        ·refine o_fY 511 X8 hx hby at_502 ((if0 _ _).trans (teq c7).1) ?_
         refine o_iC (0 : Int32) X8 hx hby at_511 rfl ?_
         refine o_q T8 (o_f38 m 514 x y st k frm to_ sn pp (0 : Int32) []) (fun _ k9 => XS.istore X8.here hx rfl (hb hby at_512) rfl (l' := (o_t38 x y st k frm to_ sn pp (0 : Int32))) rfl k9) ?_
         have al0 : ∀ i, i < 0 → ¬ o_BO st k sn frm to_ i := o_none
         have al1 : ∀ i, i < 1 → ¬ o_BO st k sn frm to_ i := o_upto al0 (o_bo0 (by decide) rfl c0)
         have al2 : ∀ i, i < 2 → ¬ o_BO st k sn frm to_ i := o_upto al1 (o_bo0 (by decide) rfl c1)
         have al3 : ∀ i, i < 3 → ¬ o_BO st k sn frm to_ i := o_upto al2 (o_bo0 (by decide) rfl c2)
         have al4 : ∀ i, i < 4 → ¬ o_BO st k sn frm to_ i := o_upto al3 (o_bo0 (by decide) rfl c3)
         have al5 : ∀ i, i < 5 → ¬ o_BO st k sn frm to_ i := o_upto al4 (o_bo0 (by decide) rfl c4)
         have al6 : ∀ i, i < 6 → ¬ o_BO st k sn frm to_ i := o_upto al5 (o_bo0 (by decide) rfl c5)
         have al7 : ∀ i, i < 7 → ¬ o_BO st k sn frm to_ i := o_upto al6 (o_bo0 (by decide) rfl c6)
         have al8 : ∀ i, i < 8 → ¬ o_BO st k sn frm to_ i := o_upto al7 (o_bo0 (by decide) rfl c7)
         exact o_Tu Z a0 hw n0 x y st k pp rc ru wa tm fr tl la L ch gb xs fs rs frm to_ sn (0 : Int32) hx hby hml hZ hown hret hlk X8 e8 NL hP hc TB r0 ((o_csn TB r0 hs0).2.2 hr al8)
        ·refine o_fN X8 hx hby at_502 ((if0 _ _).trans (feq c7).1) ?_
         refine o_iC (1 : Int32) X8 hx hby at_505 rfl ?_
         refine o_q T8 (o_f38 m 508 x y st k frm to_ sn pp (1 : Int32) []) (fun _ k9 => XS.istore X8.here hx rfl (hb hby at_506) rfl (l' := (o_t38 x y st k frm to_ sn pp (1 : Int32))) rfl k9) ?_
         refine o_go 514 X8 hx hby at_508 ?_
         exact o_Tu Z a0 hw n0 x y st k pp rc ru wa tm fr tl la L ch gb xs fs rs frm to_ sn (1 : Int32) hx hby hml hZ hown hret hlk X8 e8 NL hP hc TB r0 ((o_csn TB r0 hs0).2.1 hr ⟨7, by decide, o_bo1 (by decide) rfl c7⟩)
       ·refine o_fY 505 X7 hx hby at_484 ((if0 _ _).trans (feq c6).2) ?_
        refine o_iC (1 : Int32) X7 hx hby at_505 rfl ?_
        refine o_q T7 (o_f38 m 508 x y st k frm to_ sn pp (1 : Int32) []) (fun _ k9 => XS.istore X7.here hx rfl (hb hby at_506) rfl (l' := (o_t38 x y st k frm to_ sn pp (1 : Int32))) rfl k9) ?_
        refine o_go 514 X7 hx hby at_508 ?_
        exact o_Tu Z a0 hw n0 x y st k pp rc ru wa tm fr tl la L ch gb xs fs rs frm to_ sn (1 : Int32) hx hby hml hZ hown hret hlk X7 e7 NL hP hc TB r0 ((o_csn TB r0 hs0).2.1 hr ⟨6, by decide, o_bo1 (by decide) rfl c6⟩)
      ·refine o_fY 505 X6 hx hby at_466 ((if0 _ _).trans (feq c5).2) ?_
       refine o_iC (1 : Int32) X6 hx hby at_505 rfl ?_
       refine o_q T6 (o_f38 m 508 x y st k frm to_ sn pp (1 : Int32) []) (fun _ k9 => XS.istore X6.here hx rfl (hb hby at_506) rfl (l' := (o_t38 x y st k frm to_ sn pp (1 : Int32))) rfl k9) ?_
       refine o_go 514 X6 hx hby at_508 ?_
       exact o_Tu Z a0 hw n0 x y st k pp rc ru wa tm fr tl la L ch gb xs fs rs frm to_ sn (1 : Int32) hx hby hml hZ hown hret hlk X6 e6 NL hP hc TB r0 ((o_csn TB r0 hs0).2.1 hr ⟨5, by decide, o_bo1 (by decide) rfl c5⟩)
     ·refine o_fY 505 X5 hx hby at_449 ((if0 _ _).trans (feq c4).2) ?_
      refine o_iC (1 : Int32) X5 hx hby at_505 rfl ?_
      refine o_q T5 (o_f38 m 508 x y st k frm to_ sn pp (1 : Int32) []) (fun _ k9 => XS.istore X5.here hx rfl (hb hby at_506) rfl (l' := (o_t38 x y st k frm to_ sn pp (1 : Int32))) rfl k9) ?_
      refine o_go 514 X5 hx hby at_508 ?_
      exact o_Tu Z a0 hw n0 x y st k pp rc ru wa tm fr tl la L ch gb xs fs rs frm to_ sn (1 : Int32) hx hby hml hZ hown hret hlk X5 e5 NL hP hc TB r0 ((o_csn TB r0 hs0).2.1 hr ⟨4, by decide, o_bo1 (by decide) rfl c4⟩)
    ·refine o_fY 505 X4 hx hby at_432 ((if0 _ _).trans (feq c3).2) ?_
     refine o_iC (1 : Int32) X4 hx hby at_505 rfl ?_
     refine o_q T4 (o_f38 m 508 x y st k frm to_ sn pp (1 : Int32) []) (fun _ k9 => XS.istore X4.here hx rfl (hb hby at_506) rfl (l' := (o_t38 x y st k frm to_ sn pp (1 : Int32))) rfl k9) ?_
     refine o_go 514 X4 hx hby at_508 ?_
     exact o_Tu Z a0 hw n0 x y st k pp rc ru wa tm fr tl la L ch gb xs fs rs frm to_ sn (1 : Int32) hx hby hml hZ hown hret hlk X4 e4 NL hP hc TB r0 ((o_csn TB r0 hs0).2.1 hr ⟨3, by decide, o_bo1 (by decide) rfl c3⟩)
   ·refine o_fY 505 X3 hx hby at_415 ((if0 _ _).trans (feq c2).2) ?_
    refine o_iC (1 : Int32) X3 hx hby at_505 rfl ?_
    refine o_q T3 (o_f38 m 508 x y st k frm to_ sn pp (1 : Int32) []) (fun _ k9 => XS.istore X3.here hx rfl (hb hby at_506) rfl (l' := (o_t38 x y st k frm to_ sn pp (1 : Int32))) rfl k9) ?_
    refine o_go 514 X3 hx hby at_508 ?_
    exact o_Tu Z a0 hw n0 x y st k pp rc ru wa tm fr tl la L ch gb xs fs rs frm to_ sn (1 : Int32) hx hby hml hZ hown hret hlk X3 e3 NL hP hc TB r0 ((o_csn TB r0 hs0).2.1 hr ⟨2, by decide, o_bo1 (by decide) rfl c2⟩)
  ·refine o_fY 505 X2 hx hby at_398 ((if0 _ _).trans (feq c1).2) ?_
   refine o_iC (1 : Int32) X2 hx hby at_505 rfl ?_
   refine o_q T2 (o_f38 m 508 x y st k frm to_ sn pp (1 : Int32) []) (fun _ k9 => XS.istore X2.here hx rfl (hb hby at_506) rfl (l' := (o_t38 x y st k frm to_ sn pp (1 : Int32))) rfl k9) ?_
   refine o_go 514 X2 hx hby at_508 ?_
   exact o_Tu Z a0 hw n0 x y st k pp rc ru wa tm fr tl la L ch gb xs fs rs frm to_ sn (1 : Int32) hx hby hml hZ hown hret hlk X2 e2 NL hP hc TB r0 ((o_csn TB r0 hs0).2.1 hr ⟨1, by decide, o_bo1 (by decide) rfl c1⟩)
 ·refine o_fY 505 X1 hx hby at_381 ((if0 _ _).trans (feq c0).2) ?_
  refine o_iC (1 : Int32) X1 hx hby at_505 rfl ?_
  refine o_q T1 (o_f38 m 508 x y st k frm to_ sn pp (1 : Int32) []) (fun _ k9 => XS.istore X1.here hx rfl (hb hby at_506) rfl (l' := (o_t38 x y st k frm to_ sn pp (1 : Int32))) rfl k9) ?_
  refine o_go 514 X1 hx hby at_508 ?_
  exact o_Tu Z a0 hw n0 x y st k pp rc ru wa tm fr tl la L ch gb xs fs rs frm to_ sn (1 : Int32) hx hby hml hZ hown hret hlk X1 e1 NL hP hc TB r0 ((o_csn TB r0 hs0).2.1 hr ⟨0, by decide, o_bo1 (by decide) rfl c0⟩)
set_option maxRecDepth 65536 in
set_option maxHeartbeats 40000000 in
theorem o_N1 {p : Program} {l : Launch} {e : Env} {s : State} {m : MethodId} {below : List Frame} {meth : Method} {c : Code} (Z : State) (a0 : Array Value) (hw : ∀ d ∈ tables_1, d.before a0 Z = true) (n0 : Nat) (x y st : Int64) (k : Int32) (pp rc ru wa tm fr : Addr) (tl la L : Int32) (ch gb : Int64) (xs : Nat → Int64) (fs : Nat → Int32) (rs : Nat → Int64) (frm to_ : Int64) (sn : Int32)
  (hx : p.tables.exec = Jvm.exec) (hby : c.code = code) (hml : c.maxLocals = maxLocals) (hZ : Z.Warmed39 s.vm) (hown : s.vm.findClass o_n5 = some m.cls) (hret : meth.sig.returnType = ret) (hlk : meth.locks = false) {T : State} {locs : List Loc} {hh : Heap} (X0 : Stand p l e room_1 s m #[(.long x), (.long y), (.long st), (.int k)] below meth c T locs 12 258) (e0 : T.heap = hh) (NL : Fr n0 locs) (hP : o_Pr Z n0 pp rc ru wa tm fr tl la L ch gb xs fs rs hh) (hc : ch.toInt = ((9 : Nat) : Int)) (TB : o_Tab st k 8 rs gb) (r0 : 0 ≤ sn.toInt ∧ sn.toInt < 10) (hs0 : ¬ sn = (0 : Int32)) :
  o_G p e below s (fun v h L => v = some (.int (1 : Int32)) ∧ Fr n0 L) 32 320 T (o_f39 m 239 x y st k frm to_ sn pp []) := by
 refine o_q T (o_f39 m 241 x y st k frm to_ sn pp [(.long st)]) (fun _ k9 => XS.lload X0.here hx rfl (hb hby at_239) rfl k9) ?_
 refine o_q T (o_f39 m 243 x y st k frm to_ sn pp [(.int k), (.long st)]) (fun _ k9 => XS.iload X0.here hx rfl (hb hby at_241) rfl k9) ?_
 refine o_iC (0 : Int32) X0 hx hby at_243 rfl ?_
 refine o_q T (o_f39 m 246 x y st k frm to_ sn pp [(.int sn), (.int (0 : Int32)), (.int k), (.long st)]) (fun _ k9 => XS.iload X0.here hx rfl (hb hby at_244) rfl k9) ?_
 refine o_q T (o_f39 m 248 x y st k frm to_ sn pp [(.long frm), (.int sn), (.int (0 : Int32)), (.int k), (.long st)]) (fun _ k9 => XS.lload X0.here hx rfl (hb hby at_246) rfl k9) ?_
 obtain ⟨v1, T1, L1, hQ1, X1, st1⟩ := o_callS X0 hx hZ e0 hown (o_m hw 165 rfl) (o_m hw 166 rfl) (by decide) (o_m hw 167 rfl) (o_m hw 122 rfl) (o_c_relBefore l Z a0 hw st k (0 : Int32) sn frm hh) (g := (o_f39 m 248 x y st k frm to_ sn pp [(.long frm), (.int sn), (.int (0 : Int32)), (.int k), (.long st)])) rfl (by rw [hml]; rfl) rfl (argsL := [(.long st), (.int k), (.int (0 : Int32)), (.int sn), (.long frm)]) (rest := []) rfl (lenOf o_pd11 rfl) rfl (hb hby at_248) (o_b rfl) (o_b rfl) (o_b rfl) (o_b rfl)
 obtain ⟨rfl, rfl, e1⟩ := hQ1
 rw [List.append_nil] at X1
 refine o_q T1 (o_f39 m 251 x y st k frm to_ sn pp [(.int (o_rb st k (0 : Int32) sn frm))]) st1 ?_
 by_cases c0 : (o_rb st k (0 : Int32) sn frm) = (0 : Int32)
 ·refine o_fN X1 hx hby at_251 ((if0 _ _).trans (teq c0).2) ?_
  refine o_q T1 (o_f39 m 256 x y st k frm to_ sn pp [(.long st)]) (fun _ k9 => XS.lload X1.here hx rfl (hb hby at_254) rfl k9) ?_
  refine o_q T1 (o_f39 m 258 x y st k frm to_ sn pp [(.int k), (.long st)]) (fun _ k9 => XS.iload X1.here hx rfl (hb hby at_256) rfl k9) ?_
  refine o_iC (1 : Int32) X1 hx hby at_258 rfl ?_
  refine o_q T1 (o_f39 m 261 x y st k frm to_ sn pp [(.int sn), (.int (1 : Int32)), (.int k), (.long st)]) (fun _ k9 => XS.iload X1.here hx rfl (hb hby at_259) rfl k9) ?_
  refine o_q T1 (o_f39 m 263 x y st k frm to_ sn pp [(.long frm), (.int sn), (.int (1 : Int32)), (.int k), (.long st)]) (fun _ k9 => XS.lload X1.here hx rfl (hb hby at_261) rfl k9) ?_
  obtain ⟨v2, T2, L2, hQ2, X2, st2⟩ := o_callS X1 hx hZ e1 hown (o_m hw 165 rfl) (o_m hw 166 rfl) (by decide) (o_m hw 167 rfl) (o_m hw 122 rfl) (o_c_relBefore l Z a0 hw st k (1 : Int32) sn frm hh) (g := (o_f39 m 263 x y st k frm to_ sn pp [(.long frm), (.int sn), (.int (1 : Int32)), (.int k), (.long st)])) rfl (by rw [hml]; rfl) rfl (argsL := [(.long st), (.int k), (.int (1 : Int32)), (.int sn), (.long frm)]) (rest := []) rfl (lenOf o_pd11 rfl) rfl (hb hby at_263) (o_b rfl) (o_b rfl) (o_b rfl) (o_b rfl)
  obtain ⟨rfl, rfl, e2⟩ := hQ2
  rw [List.append_nil] at X2
  refine o_q T2 (o_f39 m 266 x y st k frm to_ sn pp [(.int (o_rb st k (1 : Int32) sn frm))]) st2 ?_
  by_cases c1 : (o_rb st k (1 : Int32) sn frm) = (0 : Int32)
  ·refine o_fN X2 hx hby at_266 ((if0 _ _).trans (teq c1).2) ?_
   refine o_q T2 (o_f39 m 271 x y st k frm to_ sn pp [(.long st)]) (fun _ k9 => XS.lload X2.here hx rfl (hb hby at_269) rfl k9) ?_
   refine o_q T2 (o_f39 m 273 x y st k frm to_ sn pp [(.int k), (.long st)]) (fun _ k9 => XS.iload X2.here hx rfl (hb hby at_271) rfl k9) ?_
   refine o_iC (2 : Int32) X2 hx hby at_273 rfl ?_
   refine o_q T2 (o_f39 m 276 x y st k frm to_ sn pp [(.int sn), (.int (2 : Int32)), (.int k), (.long st)]) (fun _ k9 => XS.iload X2.here hx rfl (hb hby at_274) rfl k9) ?_
   refine o_q T2 (o_f39 m 278 x y st k frm to_ sn pp [(.long frm), (.int sn), (.int (2 : Int32)), (.int k), (.long st)]) (fun _ k9 => XS.lload X2.here hx rfl (hb hby at_276) rfl k9) ?_
   obtain ⟨v3, T3, L3, hQ3, X3, st3⟩ := o_callS X2 hx hZ e2 hown (o_m hw 165 rfl) (o_m hw 166 rfl) (by decide) (o_m hw 167 rfl) (o_m hw 122 rfl) (o_c_relBefore l Z a0 hw st k (2 : Int32) sn frm hh) (g := (o_f39 m 278 x y st k frm to_ sn pp [(.long frm), (.int sn), (.int (2 : Int32)), (.int k), (.long st)])) rfl (by rw [hml]; rfl) rfl (argsL := [(.long st), (.int k), (.int (2 : Int32)), (.int sn), (.long frm)]) (rest := []) rfl (lenOf o_pd11 rfl) rfl (hb hby at_278) (o_b rfl) (o_b rfl) (o_b rfl) (o_b rfl)
   obtain ⟨rfl, rfl, e3⟩ := hQ3
   rw [List.append_nil] at X3
   refine o_q T3 (o_f39 m 281 x y st k frm to_ sn pp [(.int (o_rb st k (2 : Int32) sn frm))]) st3 ?_
   by_cases c2 : (o_rb st k (2 : Int32) sn frm) = (0 : Int32)
   ·refine o_fN X3 hx hby at_281 ((if0 _ _).trans (teq c2).2) ?_
    refine o_q T3 (o_f39 m 286 x y st k frm to_ sn pp [(.long st)]) (fun _ k9 => XS.lload X3.here hx rfl (hb hby at_284) rfl k9) ?_
    refine o_q T3 (o_f39 m 288 x y st k frm to_ sn pp [(.int k), (.long st)]) (fun _ k9 => XS.iload X3.here hx rfl (hb hby at_286) rfl k9) ?_
    refine o_iC (3 : Int32) X3 hx hby at_288 rfl ?_
    refine o_q T3 (o_f39 m 291 x y st k frm to_ sn pp [(.int sn), (.int (3 : Int32)), (.int k), (.long st)]) (fun _ k9 => XS.iload X3.here hx rfl (hb hby at_289) rfl k9) ?_
    refine o_q T3 (o_f39 m 293 x y st k frm to_ sn pp [(.long frm), (.int sn), (.int (3 : Int32)), (.int k), (.long st)]) (fun _ k9 => XS.lload X3.here hx rfl (hb hby at_291) rfl k9) ?_
    obtain ⟨v4, T4, L4, hQ4, X4, st4⟩ := o_callS X3 hx hZ e3 hown (o_m hw 165 rfl) (o_m hw 166 rfl) (by decide) (o_m hw 167 rfl) (o_m hw 122 rfl) (o_c_relBefore l Z a0 hw st k (3 : Int32) sn frm hh) (g := (o_f39 m 293 x y st k frm to_ sn pp [(.long frm), (.int sn), (.int (3 : Int32)), (.int k), (.long st)])) rfl (by rw [hml]; rfl) rfl (argsL := [(.long st), (.int k), (.int (3 : Int32)), (.int sn), (.long frm)]) (rest := []) rfl (lenOf o_pd11 rfl) rfl (hb hby at_293) (o_b rfl) (o_b rfl) (o_b rfl) (o_b rfl)
    obtain ⟨rfl, rfl, e4⟩ := hQ4
    rw [List.append_nil] at X4
    refine o_q T4 (o_f39 m 296 x y st k frm to_ sn pp [(.int (o_rb st k (3 : Int32) sn frm))]) st4 ?_
    by_cases c3 : (o_rb st k (3 : Int32) sn frm) = (0 : Int32)
    ·refine o_fN X4 hx hby at_296 ((if0 _ _).trans (teq c3).2) ?_
     refine o_q T4 (o_f39 m 301 x y st k frm to_ sn pp [(.long st)]) (fun _ k9 => XS.lload X4.here hx rfl (hb hby at_299) rfl k9) ?_
     refine o_q T4 (o_f39 m 303 x y st k frm to_ sn pp [(.int k), (.long st)]) (fun _ k9 => XS.iload X4.here hx rfl (hb hby at_301) rfl k9) ?_
     refine o_iC (4 : Int32) X4 hx hby at_303 rfl ?_
     refine o_q T4 (o_f39 m 306 x y st k frm to_ sn pp [(.int sn), (.int (4 : Int32)), (.int k), (.long st)]) (fun _ k9 => XS.iload X4.here hx rfl (hb hby at_304) rfl k9) ?_
     refine o_q T4 (o_f39 m 308 x y st k frm to_ sn pp [(.long frm), (.int sn), (.int (4 : Int32)), (.int k), (.long st)]) (fun _ k9 => XS.lload X4.here hx rfl (hb hby at_306) rfl k9) ?_
     obtain ⟨v5, T5, L5, hQ5, X5, st5⟩ := o_callS X4 hx hZ e4 hown (o_m hw 165 rfl) (o_m hw 166 rfl) (by decide) (o_m hw 167 rfl) (o_m hw 122 rfl) (o_c_relBefore l Z a0 hw st k (4 : Int32) sn frm hh) (g := (o_f39 m 308 x y st k frm to_ sn pp [(.long frm), (.int sn), (.int (4 : Int32)), (.int k), (.long st)])) rfl (by rw [hml]; rfl) rfl (argsL := [(.long st), (.int k), (.int (4 : Int32)), (.int sn), (.long frm)]) (rest := []) rfl (lenOf o_pd11 rfl) rfl (hb hby at_308) (o_b rfl) (o_b rfl) (o_b rfl) (o_b rfl)
     obtain ⟨rfl, rfl, e5⟩ := hQ5
     rw [List.append_nil] at X5
     refine o_q T5 (o_f39 m 311 x y st k frm to_ sn pp [(.int (o_rb st k (4 : Int32) sn frm))]) st5 ?_
     by_cases c4 : (o_rb st k (4 : Int32) sn frm) = (0 : Int32)
     ·refine o_fN X5 hx hby at_311 ((if0 _ _).trans (teq c4).2) ?_
      refine o_q T5 (o_f39 m 316 x y st k frm to_ sn pp [(.long st)]) (fun _ k9 => XS.lload X5.here hx rfl (hb hby at_314) rfl k9) ?_
      refine o_q T5 (o_f39 m 318 x y st k frm to_ sn pp [(.int k), (.long st)]) (fun _ k9 => XS.iload X5.here hx rfl (hb hby at_316) rfl k9) ?_
      refine o_iC (5 : Int32) X5 hx hby at_318 rfl ?_
      refine o_q T5 (o_f39 m 321 x y st k frm to_ sn pp [(.int sn), (.int (5 : Int32)), (.int k), (.long st)]) (fun _ k9 => XS.iload X5.here hx rfl (hb hby at_319) rfl k9) ?_
      refine o_q T5 (o_f39 m 323 x y st k frm to_ sn pp [(.long frm), (.int sn), (.int (5 : Int32)), (.int k), (.long st)]) (fun _ k9 => XS.lload X5.here hx rfl (hb hby at_321) rfl k9) ?_
      obtain ⟨v6, T6, L6, hQ6, X6, st6⟩ := o_callS X5 hx hZ e5 hown (o_m hw 165 rfl) (o_m hw 166 rfl) (by decide) (o_m hw 167 rfl) (o_m hw 122 rfl) (o_c_relBefore l Z a0 hw st k (5 : Int32) sn frm hh) (g := (o_f39 m 323 x y st k frm to_ sn pp [(.long frm), (.int sn), (.int (5 : Int32)), (.int k), (.long st)])) rfl (by rw [hml]; rfl) rfl (argsL := [(.long st), (.int k), (.int (5 : Int32)), (.int sn), (.long frm)]) (rest := []) rfl (lenOf o_pd11 rfl) rfl (hb hby at_323) (o_b rfl) (o_b rfl) (o_b rfl) (o_b rfl)
      obtain ⟨rfl, rfl, e6⟩ := hQ6
      rw [List.append_nil] at X6
      refine o_q T6 (o_f39 m 326 x y st k frm to_ sn pp [(.int (o_rb st k (5 : Int32) sn frm))]) st6 ?_
      by_cases c5 : (o_rb st k (5 : Int32) sn frm) = (0 : Int32)
      ·refine o_fN X6 hx hby at_326 ((if0 _ _).trans (teq c5).2) ?_
       refine o_q T6 (o_f39 m 331 x y st k frm to_ sn pp [(.long st)]) (fun _ k9 => XS.lload X6.here hx rfl (hb hby at_329) rfl k9) ?_
       refine o_q T6 (o_f39 m 333 x y st k frm to_ sn pp [(.int k), (.long st)]) (fun _ k9 => XS.iload X6.here hx rfl (hb hby at_331) rfl k9) ?_
       refine o_q T6 (o_f39 m 335 x y st k frm to_ sn pp [(.int (6 : Int32)), (.int k), (.long st)]) (fun _ k9 => XS.bipush X6.here hx rfl (hb hby at_333) k9) ?_
       refine o_q T6 (o_f39 m 337 x y st k frm to_ sn pp [(.int sn), (.int (6 : Int32)), (.int k), (.long st)]) (fun _ k9 => XS.iload X6.here hx rfl (hb hby at_335) rfl k9) ?_
       refine o_q T6 (o_f39 m 339 x y st k frm to_ sn pp [(.long frm), (.int sn), (.int (6 : Int32)), (.int k), (.long st)]) (fun _ k9 => XS.lload X6.here hx rfl (hb hby at_337) rfl k9) ?_
       obtain ⟨v7, T7, L7, hQ7, X7, st7⟩ := o_callS X6 hx hZ e6 hown (o_m hw 165 rfl) (o_m hw 166 rfl) (by decide) (o_m hw 167 rfl) (o_m hw 122 rfl) (o_c_relBefore l Z a0 hw st k (6 : Int32) sn frm hh) (g := (o_f39 m 339 x y st k frm to_ sn pp [(.long frm), (.int sn), (.int (6 : Int32)), (.int k), (.long st)])) rfl (by rw [hml]; rfl) rfl (argsL := [(.long st), (.int k), (.int (6 : Int32)), (.int sn), (.long frm)]) (rest := []) rfl (lenOf o_pd11 rfl) rfl (hb hby at_339) (o_b rfl) (o_b rfl) (o_b rfl) (o_b rfl)
       obtain ⟨rfl, rfl, e7⟩ := hQ7
       rw [List.append_nil] at X7
       refine o_q T7 (o_f39 m 342 x y st k frm to_ sn pp [(.int (o_rb st k (6 : Int32) sn frm))]) st7 ?_
       by_cases c6 : (o_rb st k (6 : Int32) sn frm) = (0 : Int32)
       ·refine o_fN X7 hx hby at_342 ((if0 _ _).trans (teq c6).2) ?_
        refine o_q T7 (o_f39 m 347 x y st k frm to_ sn pp [(.long st)]) (fun _ k9 => XS.lload X7.here hx rfl (hb hby at_345) rfl k9) ?_
        refine o_q T7 (o_f39 m 349 x y st k frm to_ sn pp [(.int k), (.long st)]) (fun _ k9 => XS.iload X7.here hx rfl (hb hby at_347) rfl k9) ?_
        refine o_q T7 (o_f39 m 351 x y st k frm to_ sn pp [(.int (7 : Int32)), (.int k), (.long st)]) (fun _ k9 => XS.bipush X7.here hx rfl (hb hby at_349) k9) ?_
        refine o_q T7 (o_f39 m 353 x y st k frm to_ sn pp [(.int sn), (.int (7 : Int32)), (.int k), (.long st)]) (fun _ k9 => XS.iload X7.here hx rfl (hb hby at_351) rfl k9) ?_
        refine o_q T7 (o_f39 m 355 x y st k frm to_ sn pp [(.long frm), (.int sn), (.int (7 : Int32)), (.int k), (.long st)]) (fun _ k9 => XS.lload X7.here hx rfl (hb hby at_353) rfl k9) ?_
        obtain ⟨v8, T8, L8, hQ8, X8, st8⟩ := o_callS X7 hx hZ e7 hown (o_m hw 165 rfl) (o_m hw 166 rfl) (by decide) (o_m hw 167 rfl) (o_m hw 122 rfl) (o_c_relBefore l Z a0 hw st k (7 : Int32) sn frm hh) (g := (o_f39 m 355 x y st k frm to_ sn pp [(.long frm), (.int sn), (.int (7 : Int32)), (.int k), (.long st)])) rfl (by rw [hml]; rfl) rfl (argsL := [(.long st), (.int k), (.int (7 : Int32)), (.int sn), (.long frm)]) (rest := []) rfl (lenOf o_pd11 rfl) rfl (hb hby at_355) (o_b rfl) (o_b rfl) (o_b rfl) (o_b rfl)
        obtain ⟨rfl, rfl, e8⟩ := hQ8
        rw [List.append_nil] at X8
        refine o_q T8 (o_f39 m 358 x y st k frm to_ sn pp [(.int (o_rb st k (7 : Int32) sn frm))]) st8 ?_
        by_cases c7 : (o_rb st k (7 : Int32) sn frm) = (0 : Int32)
        ·refine o_fY 367 X8 hx hby at_358 ((if0 _ _).trans (teq c7).1) ?_
         have al0 : ∀ i, i < 0 → ¬ o_RB st k sn frm i := o_none
         have al1 : ∀ i, i < 1 → ¬ o_RB st k sn frm i := o_upto al0 (o_rb0 (by decide) rfl c0)
         have al2 : ∀ i, i < 2 → ¬ o_RB st k sn frm i := o_upto al1 (o_rb0 (by decide) rfl c1)
         have al3 : ∀ i, i < 3 → ¬ o_RB st k sn frm i := o_upto al2 (o_rb0 (by decide) rfl c2)
         have al4 : ∀ i, i < 4 → ¬ o_RB st k sn frm i := o_upto al3 (o_rb0 (by decide) rfl c3)
         have al5 : ∀ i, i < 5 → ¬ o_RB st k sn frm i := o_upto al4 (o_rb0 (by decide) rfl c4)
         have al6 : ∀ i, i < 6 → ¬ o_RB st k sn frm i := o_upto al5 (o_rb0 (by decide) rfl c5)
         have al7 : ∀ i, i < 7 → ¬ o_RB st k sn frm i := o_upto al6 (o_rb0 (by decide) rfl c6)
         have al8 : ∀ i, i < 8 → ¬ o_RB st k sn frm i := o_upto al7 (o_rb0 (by decide) rfl c7)
         exact o_N2 Z a0 hw n0 x y st k pp rc ru wa tm fr tl la L ch gb xs fs rs frm to_ sn hx hby hml hZ hown hret hlk X8 e8 NL hP hc TB r0 hs0 al8
        ·refine o_fN X8 hx hby at_358 ((if0 _ _).trans (feq c7).1) ?_
         refine o_iC (2 : Int32) X8 hx hby at_361 rfl ?_
         refine o_q T8 (o_f38 m 364 x y st k frm to_ sn pp (2 : Int32) []) (fun _ k9 => XS.istore X8.here hx rfl (hb hby at_362) rfl (l' := (o_t38 x y st k frm to_ sn pp (2 : Int32))) rfl k9) ?_
         refine o_go 514 X8 hx hby at_364 ?_
         exact o_Tu Z a0 hw n0 x y st k pp rc ru wa tm fr tl la L ch gb xs fs rs frm to_ sn (2 : Int32) hx hby hml hZ hown hret hlk X8 e8 NL hP hc TB r0 ((o_csn TB r0 hs0).1 ⟨7, by decide, o_rb1 (by decide) rfl c7⟩)
       ·refine o_fY 361 X7 hx hby at_342 ((if0 _ _).trans (feq c6).2) ?_
        refine o_iC (2 : Int32) X7 hx hby at_361 rfl ?_
        refine o_q T7 (o_f38 m 364 x y st k frm to_ sn pp (2 : Int32) []) (fun _ k9 => XS.istore X7.here hx rfl (hb hby at_362) rfl (l' := (o_t38 x y st k frm to_ sn pp (2 : Int32))) rfl k9) ?_
        refine o_go 514 X7 hx hby at_364 ?_
        exact o_Tu Z a0 hw n0 x y st k pp rc ru wa tm fr tl la L ch gb xs fs rs frm to_ sn (2 : Int32) hx hby hml hZ hown hret hlk X7 e7 NL hP hc TB r0 ((o_csn TB r0 hs0).1 ⟨6, by decide, o_rb1 (by decide) rfl c6⟩)
      ·refine o_fY 361 X6 hx hby at_326 ((if0 _ _).trans (feq c5).2) ?_
       refine o_iC (2 : Int32) X6 hx hby at_361 rfl ?_
       refine o_q T6 (o_f38 m 364 x y st k frm to_ sn pp (2 : Int32) []) (fun _ k9 => XS.istore X6.here hx rfl (hb hby at_362) rfl (l' := (o_t38 x y st k frm to_ sn pp (2 : Int32))) rfl k9) ?_
       refine o_go 514 X6 hx hby at_364 ?_
       exact o_Tu Z a0 hw n0 x y st k pp rc ru wa tm fr tl la L ch gb xs fs rs frm to_ sn (2 : Int32) hx hby hml hZ hown hret hlk X6 e6 NL hP hc TB r0 ((o_csn TB r0 hs0).1 ⟨5, by decide, o_rb1 (by decide) rfl c5⟩)
     ·refine o_fY 361 X5 hx hby at_311 ((if0 _ _).trans (feq c4).2) ?_
      refine o_iC (2 : Int32) X5 hx hby at_361 rfl ?_
      refine o_q T5 (o_f38 m 364 x y st k frm to_ sn pp (2 : Int32) []) (fun _ k9 => XS.istore X5.here hx rfl (hb hby at_362) rfl (l' := (o_t38 x y st k frm to_ sn pp (2 : Int32))) rfl k9) ?_
      refine o_go 514 X5 hx hby at_364 ?_
      exact o_Tu Z a0 hw n0 x y st k pp rc ru wa tm fr tl la L ch gb xs fs rs frm to_ sn (2 : Int32) hx hby hml hZ hown hret hlk X5 e5 NL hP hc TB r0 ((o_csn TB r0 hs0).1 ⟨4, by decide, o_rb1 (by decide) rfl c4⟩)
    ·refine o_fY 361 X4 hx hby at_296 ((if0 _ _).trans (feq c3).2) ?_
     refine o_iC (2 : Int32) X4 hx hby at_361 rfl ?_
     refine o_q T4 (o_f38 m 364 x y st k frm to_ sn pp (2 : Int32) []) (fun _ k9 => XS.istore X4.here hx rfl (hb hby at_362) rfl (l' := (o_t38 x y st k frm to_ sn pp (2 : Int32))) rfl k9) ?_
     refine o_go 514 X4 hx hby at_364 ?_
     exact o_Tu Z a0 hw n0 x y st k pp rc ru wa tm fr tl la L ch gb xs fs rs frm to_ sn (2 : Int32) hx hby hml hZ hown hret hlk X4 e4 NL hP hc TB r0 ((o_csn TB r0 hs0).1 ⟨3, by decide, o_rb1 (by decide) rfl c3⟩)
   ·refine o_fY 361 X3 hx hby at_281 ((if0 _ _).trans (feq c2).2) ?_
    refine o_iC (2 : Int32) X3 hx hby at_361 rfl ?_
    refine o_q T3 (o_f38 m 364 x y st k frm to_ sn pp (2 : Int32) []) (fun _ k9 => XS.istore X3.here hx rfl (hb hby at_362) rfl (l' := (o_t38 x y st k frm to_ sn pp (2 : Int32))) rfl k9) ?_
    refine o_go 514 X3 hx hby at_364 ?_
    exact o_Tu Z a0 hw n0 x y st k pp rc ru wa tm fr tl la L ch gb xs fs rs frm to_ sn (2 : Int32) hx hby hml hZ hown hret hlk X3 e3 NL hP hc TB r0 ((o_csn TB r0 hs0).1 ⟨2, by decide, o_rb1 (by decide) rfl c2⟩)
  ·refine o_fY 361 X2 hx hby at_266 ((if0 _ _).trans (feq c1).2) ?_
   refine o_iC (2 : Int32) X2 hx hby at_361 rfl ?_
   refine o_q T2 (o_f38 m 364 x y st k frm to_ sn pp (2 : Int32) []) (fun _ k9 => XS.istore X2.here hx rfl (hb hby at_362) rfl (l' := (o_t38 x y st k frm to_ sn pp (2 : Int32))) rfl k9) ?_
   refine o_go 514 X2 hx hby at_364 ?_
   exact o_Tu Z a0 hw n0 x y st k pp rc ru wa tm fr tl la L ch gb xs fs rs frm to_ sn (2 : Int32) hx hby hml hZ hown hret hlk X2 e2 NL hP hc TB r0 ((o_csn TB r0 hs0).1 ⟨1, by decide, o_rb1 (by decide) rfl c1⟩)
 ·refine o_fY 361 X1 hx hby at_251 ((if0 _ _).trans (feq c0).2) ?_
  refine o_iC (2 : Int32) X1 hx hby at_361 rfl ?_
  refine o_q T1 (o_f38 m 364 x y st k frm to_ sn pp (2 : Int32) []) (fun _ k9 => XS.istore X1.here hx rfl (hb hby at_362) rfl (l' := (o_t38 x y st k frm to_ sn pp (2 : Int32))) rfl k9) ?_
  refine o_go 514 X1 hx hby at_364 ?_
  exact o_Tu Z a0 hw n0 x y st k pp rc ru wa tm fr tl la L ch gb xs fs rs frm to_ sn (2 : Int32) hx hby hml hZ hown hret hlk X1 e1 NL hP hc TB r0 ((o_csn TB r0 hs0).1 ⟨0, by decide, o_rb1 (by decide) rfl c0⟩)
set_option maxRecDepth 65536 in
set_option maxHeartbeats 40000000 in
theorem o_N {p : Program} {l : Launch} {e : Env} {s : State} {m : MethodId} {below : List Frame} {meth : Method} {c : Code} (Z : State) (a0 : Array Value) (hw : ∀ d ∈ tables_1, d.before a0 Z = true) (n0 : Nat) (x y st : Int64) (k : Int32) (pp rc ru wa tm fr : Addr) (tl la L : Int32) (ch gb : Int64) (xs : Nat → Int64) (fs : Nat → Int32) (rs : Nat → Int64) (frm to_ : Int64) (sn : Int32)
  (hx : p.tables.exec = Jvm.exec) (hby : c.code = code) (hml : c.maxLocals = maxLocals) (hZ : Z.Warmed39 s.vm) (hown : s.vm.findClass o_n5 = some m.cls) (hret : meth.sig.returnType = ret) (hlk : meth.locks = false) {T : State} {locs : List Loc} {hh : Heap} (X0 : Stand p l e room_1 s m #[(.long x), (.long y), (.long st), (.int k)] below meth c T locs 12 258) (e0 : T.heap = hh) (NL : Fr n0 locs) (hP : o_Pr Z n0 pp rc ru wa tm fr tl la L ch gb xs fs rs hh) (hc : ch.toInt = ((9 : Nat) : Int)) (TB : o_Tab st k 8 rs gb) (r0 : 0 ≤ sn.toInt ∧ sn.toInt < 10) :
  o_G p e below s (fun v h L => v = some (.int (1 : Int32)) ∧ Fr n0 L) 32 320 T (o_f39 m 138 x y st k frm to_ sn pp []) := by
 refine o_q T (o_f39 m 140 x y st k frm to_ sn pp [(.int sn)]) (fun _ k9 => XS.iload X0.here hx rfl (hb hby at_138) rfl k9) ?_
 by_cases c0 : sn = (0 : Int32)
 ·refine o_fN X0 hx hby at_140 ((if0 _ _).trans (teq c0).2) ?_
  refine o_q T (o_f39 m 145 x y st k frm to_ sn pp [(.int k)]) (fun _ k9 => XS.iload X0.here hx rfl (hb hby at_143) rfl k9) ?_
  refine o_iC (0 : Int32) X0 hx hby at_145 rfl ?_
  obtain ⟨v1, T1, L1, hQ1, X1, st1⟩ := o_callS X0 hx hZ e0 hown (o_m hw 145 rfl) (o_m hw 146 rfl) (by decide) (o_m hw 147 rfl) (o_m hw 122 rfl) (o_c_released l Z a0 hw k (0 : Int32) hh) (g := (o_f39 m 146 x y st k frm to_ sn pp [(.int (0 : Int32)), (.int k)])) rfl (by rw [hml]; rfl) rfl (argsL := [(.int k), (.int (0 : Int32))]) (rest := []) rfl (lenOf o_pd6 rfl) rfl (hb hby at_146) (o_b rfl) (o_b rfl) (o_b rfl) (o_b rfl)
  obtain ⟨rfl, rfl, e1⟩ := hQ1
  rw [List.append_nil] at X1
  refine o_q T1 (o_f39 m 149 x y st k frm to_ sn pp [(.int (o_rl k (0 : Int32)))]) st1 ?_
  by_cases c1 : (o_rl k (0 : Int32)) = (0 : Int32)
  ·refine o_fN X1 hx hby at_149 ((if0 _ _).trans (teq c1).2) ?_
   refine o_q T1 (o_f39 m 154 x y st k frm to_ sn pp [(.int k)]) (fun _ k9 => XS.iload X1.here hx rfl (hb hby at_152) rfl k9) ?_
   refine o_iC (1 : Int32) X1 hx hby at_154 rfl ?_
   obtain ⟨v2, T2, L2, hQ2, X2, st2⟩ := o_callS X1 hx hZ e1 hown (o_m hw 145 rfl) (o_m hw 146 rfl) (by decide) (o_m hw 147 rfl) (o_m hw 122 rfl) (o_c_released l Z a0 hw k (1 : Int32) hh) (g := (o_f39 m 155 x y st k frm to_ sn pp [(.int (1 : Int32)), (.int k)])) rfl (by rw [hml]; rfl) rfl (argsL := [(.int k), (.int (1 : Int32))]) (rest := []) rfl (lenOf o_pd6 rfl) rfl (hb hby at_155) (o_b rfl) (o_b rfl) (o_b rfl) (o_b rfl)
   obtain ⟨rfl, rfl, e2⟩ := hQ2
   rw [List.append_nil] at X2
   refine o_q T2 (o_f39 m 158 x y st k frm to_ sn pp [(.int (o_rl k (1 : Int32)))]) st2 ?_
   by_cases c2 : (o_rl k (1 : Int32)) = (0 : Int32)
   ·refine o_fN X2 hx hby at_158 ((if0 _ _).trans (teq c2).2) ?_
    refine o_q T2 (o_f39 m 163 x y st k frm to_ sn pp [(.int k)]) (fun _ k9 => XS.iload X2.here hx rfl (hb hby at_161) rfl k9) ?_
    refine o_iC (2 : Int32) X2 hx hby at_163 rfl ?_
    obtain ⟨v3, T3, L3, hQ3, X3, st3⟩ := o_callS X2 hx hZ e2 hown (o_m hw 145 rfl) (o_m hw 146 rfl) (by decide) (o_m hw 147 rfl) (o_m hw 122 rfl) (o_c_released l Z a0 hw k (2 : Int32) hh) (g := (o_f39 m 164 x y st k frm to_ sn pp [(.int (2 : Int32)), (.int k)])) rfl (by rw [hml]; rfl) rfl (argsL := [(.int k), (.int (2 : Int32))]) (rest := []) rfl (lenOf o_pd6 rfl) rfl (hb hby at_164) (o_b rfl) (o_b rfl) (o_b rfl) (o_b rfl)
    obtain ⟨rfl, rfl, e3⟩ := hQ3
    rw [List.append_nil] at X3
    refine o_q T3 (o_f39 m 167 x y st k frm to_ sn pp [(.int (o_rl k (2 : Int32)))]) st3 ?_
    by_cases c3 : (o_rl k (2 : Int32)) = (0 : Int32)
    ·refine o_fN X3 hx hby at_167 ((if0 _ _).trans (teq c3).2) ?_
     refine o_q T3 (o_f39 m 172 x y st k frm to_ sn pp [(.int k)]) (fun _ k9 => XS.iload X3.here hx rfl (hb hby at_170) rfl k9) ?_
     refine o_iC (3 : Int32) X3 hx hby at_172 rfl ?_
     obtain ⟨v4, T4, L4, hQ4, X4, st4⟩ := o_callS X3 hx hZ e3 hown (o_m hw 145 rfl) (o_m hw 146 rfl) (by decide) (o_m hw 147 rfl) (o_m hw 122 rfl) (o_c_released l Z a0 hw k (3 : Int32) hh) (g := (o_f39 m 173 x y st k frm to_ sn pp [(.int (3 : Int32)), (.int k)])) rfl (by rw [hml]; rfl) rfl (argsL := [(.int k), (.int (3 : Int32))]) (rest := []) rfl (lenOf o_pd6 rfl) rfl (hb hby at_173) (o_b rfl) (o_b rfl) (o_b rfl) (o_b rfl)
     obtain ⟨rfl, rfl, e4⟩ := hQ4
     rw [List.append_nil] at X4
     refine o_q T4 (o_f39 m 176 x y st k frm to_ sn pp [(.int (o_rl k (3 : Int32)))]) st4 ?_
     by_cases c4 : (o_rl k (3 : Int32)) = (0 : Int32)
     ·refine o_fN X4 hx hby at_176 ((if0 _ _).trans (teq c4).2) ?_
      refine o_q T4 (o_f39 m 181 x y st k frm to_ sn pp [(.int k)]) (fun _ k9 => XS.iload X4.here hx rfl (hb hby at_179) rfl k9) ?_
      refine o_iC (4 : Int32) X4 hx hby at_181 rfl ?_
      obtain ⟨v5, T5, L5, hQ5, X5, st5⟩ := o_callS X4 hx hZ e4 hown (o_m hw 145 rfl) (o_m hw 146 rfl) (by decide) (o_m hw 147 rfl) (o_m hw 122 rfl) (o_c_released l Z a0 hw k (4 : Int32) hh) (g := (o_f39 m 182 x y st k frm to_ sn pp [(.int (4 : Int32)), (.int k)])) rfl (by rw [hml]; rfl) rfl (argsL := [(.int k), (.int (4 : Int32))]) (rest := []) rfl (lenOf o_pd6 rfl) rfl (hb hby at_182) (o_b rfl) (o_b rfl) (o_b rfl) (o_b rfl)
      obtain ⟨rfl, rfl, e5⟩ := hQ5
      rw [List.append_nil] at X5
      refine o_q T5 (o_f39 m 185 x y st k frm to_ sn pp [(.int (o_rl k (4 : Int32)))]) st5 ?_
      by_cases c5 : (o_rl k (4 : Int32)) = (0 : Int32)
      ·refine o_fN X5 hx hby at_185 ((if0 _ _).trans (teq c5).2) ?_
       refine o_q T5 (o_f39 m 190 x y st k frm to_ sn pp [(.int k)]) (fun _ k9 => XS.iload X5.here hx rfl (hb hby at_188) rfl k9) ?_
       refine o_iC (5 : Int32) X5 hx hby at_190 rfl ?_
       obtain ⟨v6, T6, L6, hQ6, X6, st6⟩ := o_callS X5 hx hZ e5 hown (o_m hw 145 rfl) (o_m hw 146 rfl) (by decide) (o_m hw 147 rfl) (o_m hw 122 rfl) (o_c_released l Z a0 hw k (5 : Int32) hh) (g := (o_f39 m 191 x y st k frm to_ sn pp [(.int (5 : Int32)), (.int k)])) rfl (by rw [hml]; rfl) rfl (argsL := [(.int k), (.int (5 : Int32))]) (rest := []) rfl (lenOf o_pd6 rfl) rfl (hb hby at_191) (o_b rfl) (o_b rfl) (o_b rfl) (o_b rfl)
       obtain ⟨rfl, rfl, e6⟩ := hQ6
       rw [List.append_nil] at X6
       refine o_q T6 (o_f39 m 194 x y st k frm to_ sn pp [(.int (o_rl k (5 : Int32)))]) st6 ?_
       by_cases c6 : (o_rl k (5 : Int32)) = (0 : Int32)
       ·refine o_fN X6 hx hby at_194 ((if0 _ _).trans (teq c6).2) ?_
        refine o_q T6 (o_f39 m 199 x y st k frm to_ sn pp [(.int k)]) (fun _ k9 => XS.iload X6.here hx rfl (hb hby at_197) rfl k9) ?_
        refine o_q T6 (o_f39 m 201 x y st k frm to_ sn pp [(.int (6 : Int32)), (.int k)]) (fun _ k9 => XS.bipush X6.here hx rfl (hb hby at_199) k9) ?_
        obtain ⟨v7, T7, L7, hQ7, X7, st7⟩ := o_callS X6 hx hZ e6 hown (o_m hw 145 rfl) (o_m hw 146 rfl) (by decide) (o_m hw 147 rfl) (o_m hw 122 rfl) (o_c_released l Z a0 hw k (6 : Int32) hh) (g := (o_f39 m 201 x y st k frm to_ sn pp [(.int (6 : Int32)), (.int k)])) rfl (by rw [hml]; rfl) rfl (argsL := [(.int k), (.int (6 : Int32))]) (rest := []) rfl (lenOf o_pd6 rfl) rfl (hb hby at_201) (o_b rfl) (o_b rfl) (o_b rfl) (o_b rfl)
        obtain ⟨rfl, rfl, e7⟩ := hQ7
        rw [List.append_nil] at X7
        refine o_q T7 (o_f39 m 204 x y st k frm to_ sn pp [(.int (o_rl k (6 : Int32)))]) st7 ?_
        by_cases c7 : (o_rl k (6 : Int32)) = (0 : Int32)
        ·refine o_fN X7 hx hby at_204 ((if0 _ _).trans (teq c7).2) ?_
         refine o_q T7 (o_f39 m 209 x y st k frm to_ sn pp [(.int k)]) (fun _ k9 => XS.iload X7.here hx rfl (hb hby at_207) rfl k9) ?_
         refine o_q T7 (o_f39 m 211 x y st k frm to_ sn pp [(.int (7 : Int32)), (.int k)]) (fun _ k9 => XS.bipush X7.here hx rfl (hb hby at_209) k9) ?_
         obtain ⟨v8, T8, L8, hQ8, X8, st8⟩ := o_callS X7 hx hZ e7 hown (o_m hw 145 rfl) (o_m hw 146 rfl) (by decide) (o_m hw 147 rfl) (o_m hw 122 rfl) (o_c_released l Z a0 hw k (7 : Int32) hh) (g := (o_f39 m 211 x y st k frm to_ sn pp [(.int (7 : Int32)), (.int k)])) rfl (by rw [hml]; rfl) rfl (argsL := [(.int k), (.int (7 : Int32))]) (rest := []) rfl (lenOf o_pd6 rfl) rfl (hb hby at_211) (o_b rfl) (o_b rfl) (o_b rfl) (o_b rfl)
         obtain ⟨rfl, rfl, e8⟩ := hQ8
         rw [List.append_nil] at X8
         refine o_q T8 (o_f39 m 214 x y st k frm to_ sn pp [(.int (o_rl k (7 : Int32)))]) st8 ?_
         by_cases c8 : (o_rl k (7 : Int32)) = (0 : Int32)
         ·refine o_fY 221 X8 hx hby at_214 ((if0 _ _).trans (teq c8).1) ?_
          refine o_iC (0 : Int32) X8 hx hby at_221 rfl ?_
          refine o_q T8 (o_f40 m 224 x y st k frm to_ sn pp (0 : Int32) []) (fun _ k9 => XS.istore X8.here hx rfl (hb hby at_222) rfl (l' := (o_t40 x y st k frm to_ sn pp (0 : Int32))) rfl k9) ?_
          refine o_q T8 (o_f40 m 226 x y st k frm to_ sn pp (0 : Int32) [(.int (0 : Int32))]) (fun _ k9 => XS.iload X8.here hx rfl (hb hby at_224) rfl k9) ?_
          refine o_fY 233 X8 hx hby at_226 ((if0 _ _).trans (teq (by decide : (0 : Int32) = (0 : Int32))).1) ?_
          refine o_iC (1 : Int32) X8 hx hby at_233 rfl ?_
          refine o_q T8 (o_f37 m 236 x y st k frm to_ sn pp (1 : Int32) (0 : Int32) []) (fun _ k9 => XS.istore X8.here hx rfl (hb hby at_234) rfl (l' := (o_t37 x y st k frm to_ sn pp (1 : Int32) (0 : Int32))) rfl k9) ?_
          refine o_go 514 X8 hx hby at_236 ?_
          have al0 : ∀ i, i < 0 → o_rl k (Int32.ofNat i) = (0 : Int32) := o_none
          have al1 : ∀ i, i < 1 → o_rl k (Int32.ofNat i) = (0 : Int32) := o_upto al0 c1
          have al2 : ∀ i, i < 2 → o_rl k (Int32.ofNat i) = (0 : Int32) := o_upto al1 c2
          have al3 : ∀ i, i < 3 → o_rl k (Int32.ofNat i) = (0 : Int32) := o_upto al2 c3
          have al4 : ∀ i, i < 4 → o_rl k (Int32.ofNat i) = (0 : Int32) := o_upto al3 c4
          have al5 : ∀ i, i < 5 → o_rl k (Int32.ofNat i) = (0 : Int32) := o_upto al4 c5
          have al6 : ∀ i, i < 6 → o_rl k (Int32.ofNat i) = (0 : Int32) := o_upto al5 c6
          have al7 : ∀ i, i < 7 → o_rl k (Int32.ofNat i) = (0 : Int32) := o_upto al6 c7
          have al8 : ∀ i, i < 8 → o_rl k (Int32.ofNat i) = (0 : Int32) := o_upto al7 c8
          exact o_Ti Z a0 hw n0 x y st k pp rc ru wa tm fr tl la L ch gb xs fs rs frm to_ sn (1 : Int32) (0 : Int32) hx hby hml hZ hown hret hlk X8 e8 NL hP hc TB r0 ((o_csz TB c0).2 al8)
         ·refine o_fN X8 hx hby at_214 ((if0 _ _).trans (feq c8).1) ?_
          refine o_iC (1 : Int32) X8 hx hby at_217 rfl ?_
          refine o_go 222 X8 hx hby at_218 ?_
          refine o_q T8 (o_f40 m 224 x y st k frm to_ sn pp (1 : Int32) []) (fun _ k9 => XS.istore X8.here hx rfl (hb hby at_222) rfl (l' := (o_t40 x y st k frm to_ sn pp (1 : Int32))) rfl k9) ?_
          refine o_q T8 (o_f40 m 226 x y st k frm to_ sn pp (1 : Int32) [(.int (1 : Int32))]) (fun _ k9 => XS.iload X8.here hx rfl (hb hby at_224) rfl k9) ?_
          refine o_fN X8 hx hby at_226 ((if0 _ _).trans (feq (by decide : ¬ ((1 : Int32) = (0 : Int32)))).1) ?_
          refine o_iC (2 : Int32) X8 hx hby at_229 rfl ?_
          refine o_go 234 X8 hx hby at_230 ?_
          refine o_q T8 (o_f37 m 236 x y st k frm to_ sn pp (2 : Int32) (1 : Int32) []) (fun _ k9 => XS.istore X8.here hx rfl (hb hby at_234) rfl (l' := (o_t37 x y st k frm to_ sn pp (2 : Int32) (1 : Int32))) rfl k9) ?_
          refine o_go 514 X8 hx hby at_236 ?_
          exact o_Ti Z a0 hw n0 x y st k pp rc ru wa tm fr tl la L ch gb xs fs rs frm to_ sn (2 : Int32) (1 : Int32) hx hby hml hZ hown hret hlk X8 e8 NL hP hc TB r0 ((o_csz TB c0).1 ⟨7, by decide, c8⟩)
        ·refine o_fY 217 X7 hx hby at_204 ((if0 _ _).trans (feq c7).2) ?_
         refine o_iC (1 : Int32) X7 hx hby at_217 rfl ?_
         refine o_go 222 X7 hx hby at_218 ?_
         refine o_q T7 (o_f40 m 224 x y st k frm to_ sn pp (1 : Int32) []) (fun _ k9 => XS.istore X7.here hx rfl (hb hby at_222) rfl (l' := (o_t40 x y st k frm to_ sn pp (1 : Int32))) rfl k9) ?_
         refine o_q T7 (o_f40 m 226 x y st k frm to_ sn pp (1 : Int32) [(.int (1 : Int32))]) (fun _ k9 => XS.iload X7.here hx rfl (hb hby at_224) rfl k9) ?_
         refine o_fN X7 hx hby at_226 ((if0 _ _).trans (feq (by decide : ¬ ((1 : Int32) = (0 : Int32)))).1) ?_
         refine o_iC (2 : Int32) X7 hx hby at_229 rfl ?_
         refine o_go 234 X7 hx hby at_230 ?_
         refine o_q T7 (o_f37 m 236 x y st k frm to_ sn pp (2 : Int32) (1 : Int32) []) (fun _ k9 => XS.istore X7.here hx rfl (hb hby at_234) rfl (l' := (o_t37 x y st k frm to_ sn pp (2 : Int32) (1 : Int32))) rfl k9) ?_
         refine o_go 514 X7 hx hby at_236 ?_
         exact o_Ti Z a0 hw n0 x y st k pp rc ru wa tm fr tl la L ch gb xs fs rs frm to_ sn (2 : Int32) (1 : Int32) hx hby hml hZ hown hret hlk X7 e7 NL hP hc TB r0 ((o_csz TB c0).1 ⟨6, by decide, c7⟩)
       ·refine o_fY 217 X6 hx hby at_194 ((if0 _ _).trans (feq c6).2) ?_
        refine o_iC (1 : Int32) X6 hx hby at_217 rfl ?_
        refine o_go 222 X6 hx hby at_218 ?_
        refine o_q T6 (o_f40 m 224 x y st k frm to_ sn pp (1 : Int32) []) (fun _ k9 => XS.istore X6.here hx rfl (hb hby at_222) rfl (l' := (o_t40 x y st k frm to_ sn pp (1 : Int32))) rfl k9) ?_
        refine o_q T6 (o_f40 m 226 x y st k frm to_ sn pp (1 : Int32) [(.int (1 : Int32))]) (fun _ k9 => XS.iload X6.here hx rfl (hb hby at_224) rfl k9) ?_
        refine o_fN X6 hx hby at_226 ((if0 _ _).trans (feq (by decide : ¬ ((1 : Int32) = (0 : Int32)))).1) ?_
        refine o_iC (2 : Int32) X6 hx hby at_229 rfl ?_
        refine o_go 234 X6 hx hby at_230 ?_
        refine o_q T6 (o_f37 m 236 x y st k frm to_ sn pp (2 : Int32) (1 : Int32) []) (fun _ k9 => XS.istore X6.here hx rfl (hb hby at_234) rfl (l' := (o_t37 x y st k frm to_ sn pp (2 : Int32) (1 : Int32))) rfl k9) ?_
        refine o_go 514 X6 hx hby at_236 ?_
        exact o_Ti Z a0 hw n0 x y st k pp rc ru wa tm fr tl la L ch gb xs fs rs frm to_ sn (2 : Int32) (1 : Int32) hx hby hml hZ hown hret hlk X6 e6 NL hP hc TB r0 ((o_csz TB c0).1 ⟨5, by decide, c6⟩)
      ·refine o_fY 217 X5 hx hby at_185 ((if0 _ _).trans (feq c5).2) ?_
       refine o_iC (1 : Int32) X5 hx hby at_217 rfl ?_
       refine o_go 222 X5 hx hby at_218 ?_
       refine o_q T5 (o_f40 m 224 x y st k frm to_ sn pp (1 : Int32) []) (fun _ k9 => XS.istore X5.here hx rfl (hb hby at_222) rfl (l' := (o_t40 x y st k frm to_ sn pp (1 : Int32))) rfl k9) ?_
       refine o_q T5 (o_f40 m 226 x y st k frm to_ sn pp (1 : Int32) [(.int (1 : Int32))]) (fun _ k9 => XS.iload X5.here hx rfl (hb hby at_224) rfl k9) ?_
       refine o_fN X5 hx hby at_226 ((if0 _ _).trans (feq (by decide : ¬ ((1 : Int32) = (0 : Int32)))).1) ?_
       refine o_iC (2 : Int32) X5 hx hby at_229 rfl ?_
       refine o_go 234 X5 hx hby at_230 ?_
       refine o_q T5 (o_f37 m 236 x y st k frm to_ sn pp (2 : Int32) (1 : Int32) []) (fun _ k9 => XS.istore X5.here hx rfl (hb hby at_234) rfl (l' := (o_t37 x y st k frm to_ sn pp (2 : Int32) (1 : Int32))) rfl k9) ?_
       refine o_go 514 X5 hx hby at_236 ?_
       exact o_Ti Z a0 hw n0 x y st k pp rc ru wa tm fr tl la L ch gb xs fs rs frm to_ sn (2 : Int32) (1 : Int32) hx hby hml hZ hown hret hlk X5 e5 NL hP hc TB r0 ((o_csz TB c0).1 ⟨4, by decide, c5⟩)
     ·refine o_fY 217 X4 hx hby at_176 ((if0 _ _).trans (feq c4).2) ?_
      refine o_iC (1 : Int32) X4 hx hby at_217 rfl ?_
      refine o_go 222 X4 hx hby at_218 ?_
      refine o_q T4 (o_f40 m 224 x y st k frm to_ sn pp (1 : Int32) []) (fun _ k9 => XS.istore X4.here hx rfl (hb hby at_222) rfl (l' := (o_t40 x y st k frm to_ sn pp (1 : Int32))) rfl k9) ?_
      refine o_q T4 (o_f40 m 226 x y st k frm to_ sn pp (1 : Int32) [(.int (1 : Int32))]) (fun _ k9 => XS.iload X4.here hx rfl (hb hby at_224) rfl k9) ?_
      refine o_fN X4 hx hby at_226 ((if0 _ _).trans (feq (by decide : ¬ ((1 : Int32) = (0 : Int32)))).1) ?_
      refine o_iC (2 : Int32) X4 hx hby at_229 rfl ?_
      refine o_go 234 X4 hx hby at_230 ?_
      refine o_q T4 (o_f37 m 236 x y st k frm to_ sn pp (2 : Int32) (1 : Int32) []) (fun _ k9 => XS.istore X4.here hx rfl (hb hby at_234) rfl (l' := (o_t37 x y st k frm to_ sn pp (2 : Int32) (1 : Int32))) rfl k9) ?_
      refine o_go 514 X4 hx hby at_236 ?_
      exact o_Ti Z a0 hw n0 x y st k pp rc ru wa tm fr tl la L ch gb xs fs rs frm to_ sn (2 : Int32) (1 : Int32) hx hby hml hZ hown hret hlk X4 e4 NL hP hc TB r0 ((o_csz TB c0).1 ⟨3, by decide, c4⟩)
    ·refine o_fY 217 X3 hx hby at_167 ((if0 _ _).trans (feq c3).2) ?_
     refine o_iC (1 : Int32) X3 hx hby at_217 rfl ?_
     refine o_go 222 X3 hx hby at_218 ?_
     refine o_q T3 (o_f40 m 224 x y st k frm to_ sn pp (1 : Int32) []) (fun _ k9 => XS.istore X3.here hx rfl (hb hby at_222) rfl (l' := (o_t40 x y st k frm to_ sn pp (1 : Int32))) rfl k9) ?_
     refine o_q T3 (o_f40 m 226 x y st k frm to_ sn pp (1 : Int32) [(.int (1 : Int32))]) (fun _ k9 => XS.iload X3.here hx rfl (hb hby at_224) rfl k9) ?_
     refine o_fN X3 hx hby at_226 ((if0 _ _).trans (feq (by decide : ¬ ((1 : Int32) = (0 : Int32)))).1) ?_
     refine o_iC (2 : Int32) X3 hx hby at_229 rfl ?_
     refine o_go 234 X3 hx hby at_230 ?_
     refine o_q T3 (o_f37 m 236 x y st k frm to_ sn pp (2 : Int32) (1 : Int32) []) (fun _ k9 => XS.istore X3.here hx rfl (hb hby at_234) rfl (l' := (o_t37 x y st k frm to_ sn pp (2 : Int32) (1 : Int32))) rfl k9) ?_
     refine o_go 514 X3 hx hby at_236 ?_
     exact o_Ti Z a0 hw n0 x y st k pp rc ru wa tm fr tl la L ch gb xs fs rs frm to_ sn (2 : Int32) (1 : Int32) hx hby hml hZ hown hret hlk X3 e3 NL hP hc TB r0 ((o_csz TB c0).1 ⟨2, by decide, c3⟩)
   ·refine o_fY 217 X2 hx hby at_158 ((if0 _ _).trans (feq c2).2) ?_
    refine o_iC (1 : Int32) X2 hx hby at_217 rfl ?_
    refine o_go 222 X2 hx hby at_218 ?_
    refine o_q T2 (o_f40 m 224 x y st k frm to_ sn pp (1 : Int32) []) (fun _ k9 => XS.istore X2.here hx rfl (hb hby at_222) rfl (l' := (o_t40 x y st k frm to_ sn pp (1 : Int32))) rfl k9) ?_
    refine o_q T2 (o_f40 m 226 x y st k frm to_ sn pp (1 : Int32) [(.int (1 : Int32))]) (fun _ k9 => XS.iload X2.here hx rfl (hb hby at_224) rfl k9) ?_
    refine o_fN X2 hx hby at_226 ((if0 _ _).trans (feq (by decide : ¬ ((1 : Int32) = (0 : Int32)))).1) ?_
    refine o_iC (2 : Int32) X2 hx hby at_229 rfl ?_
    refine o_go 234 X2 hx hby at_230 ?_
    refine o_q T2 (o_f37 m 236 x y st k frm to_ sn pp (2 : Int32) (1 : Int32) []) (fun _ k9 => XS.istore X2.here hx rfl (hb hby at_234) rfl (l' := (o_t37 x y st k frm to_ sn pp (2 : Int32) (1 : Int32))) rfl k9) ?_
    refine o_go 514 X2 hx hby at_236 ?_
    exact o_Ti Z a0 hw n0 x y st k pp rc ru wa tm fr tl la L ch gb xs fs rs frm to_ sn (2 : Int32) (1 : Int32) hx hby hml hZ hown hret hlk X2 e2 NL hP hc TB r0 ((o_csz TB c0).1 ⟨1, by decide, c2⟩)
  ·refine o_fY 217 X1 hx hby at_149 ((if0 _ _).trans (feq c1).2) ?_
   refine o_iC (1 : Int32) X1 hx hby at_217 rfl ?_
   refine o_go 222 X1 hx hby at_218 ?_
   refine o_q T1 (o_f40 m 224 x y st k frm to_ sn pp (1 : Int32) []) (fun _ k9 => XS.istore X1.here hx rfl (hb hby at_222) rfl (l' := (o_t40 x y st k frm to_ sn pp (1 : Int32))) rfl k9) ?_
   refine o_q T1 (o_f40 m 226 x y st k frm to_ sn pp (1 : Int32) [(.int (1 : Int32))]) (fun _ k9 => XS.iload X1.here hx rfl (hb hby at_224) rfl k9) ?_
   refine o_fN X1 hx hby at_226 ((if0 _ _).trans (feq (by decide : ¬ ((1 : Int32) = (0 : Int32)))).1) ?_
   refine o_iC (2 : Int32) X1 hx hby at_229 rfl ?_
   refine o_go 234 X1 hx hby at_230 ?_
   refine o_q T1 (o_f37 m 236 x y st k frm to_ sn pp (2 : Int32) (1 : Int32) []) (fun _ k9 => XS.istore X1.here hx rfl (hb hby at_234) rfl (l' := (o_t37 x y st k frm to_ sn pp (2 : Int32) (1 : Int32))) rfl k9) ?_
   refine o_go 514 X1 hx hby at_236 ?_
   exact o_Ti Z a0 hw n0 x y st k pp rc ru wa tm fr tl la L ch gb xs fs rs frm to_ sn (2 : Int32) (1 : Int32) hx hby hml hZ hown hret hlk X1 e1 NL hP hc TB r0 ((o_csz TB c0).1 ⟨0, by decide, c1⟩)
 ·refine o_fY 239 X0 hx hby at_140 ((if0 _ _).trans (feq c0).2) ?_
  exact o_N1 Z a0 hw n0 x y st k pp rc ru wa tm fr tl la L ch gb xs fs rs frm to_ sn hx hby hml hZ hown hret hlk X0 e0 NL hP hc TB r0 c0
theorem o_snr (k : Int32) : 0 ≤ ((k &&& (15 : Int32)) % (10 : Int32)).toInt ∧ ((k &&& (15 : Int32)) % (10 : Int32)).toInt < 10 := by
 have e1 := c_mask k (15 : Int32) 4 (by decide) (by decide)
 have e2 := (c_irem (k &&& (15 : Int32)) (10 : Int32) 10 (by decide)).1 (by omega)
 omega
set_option maxRecDepth 65536 in
set_option maxHeartbeats 40000000 in
theorem o_M {p : Program} {l : Launch} {e : Env} {s : State} {m : MethodId} {below : List Frame} {meth : Method} {c : Code} (Z : State) (a0 : Array Value) (hw : ∀ d ∈ tables_1, d.before a0 Z = true) (n0 : Nat) (x y st : Int64) (k : Int32) (frm to_ : Int64) (wa ni : Addr)
  (hx : p.tables.exec = Jvm.exec) (hby : c.code = code) (hml : c.maxLocals = maxLocals) (hZ : Z.Warmed39 s.vm) (hown : s.vm.findClass o_n5 = some m.cls) (hret : meth.sig.returnType = ret) (hlk : meth.locks = false) {T : State} {locs : List Loc} {hh : Heap} (X0 : Stand p l e room_1 s m #[(.long x), (.long y), (.long st), (.int k)] below meth c T locs 0 0) (e0 : T.heap = hh) (NL : Fr n0 locs) (hsz : n0 ≤ hh.size) (wl : wa < n0) (Ew0 : Exa Z hh wa o_n2) (Sn : Sta Z hh o_n1 "NO_INSTANTS" "[J" (.ref ni)) (Sw : Sta Z hh o_n1 "UNWATCHED" "Lcom/example/gapwright/gapwright/profile/CpuProfile$Watcher;" (.ref wa)) :
  o_G p e below s (fun v h L => v = some (.int (1 : Int32)) ∧ Fr n0 L) 32 320 T (o_f41 m 22 x y st k frm to_ []) := by
 refine o_q T (o_f41 m 24 x y st k frm to_ [(.int k)]) (fun _ k9 => XS.iload X0.here hx rfl (hb hby at_22) rfl k9) ?_
 refine o_q T (o_f41 m 26 x y st k frm to_ [(.int (15 : Int32)), (.int k)]) (fun _ k9 => XS.bipush X0.here hx rfl (hb hby at_24) k9) ?_
 refine o_q T (o_f41 m 27 x y st k frm to_ [(.int (k &&& (15 : Int32)))]) (fun _ k9 => XS.iand X0.here hx rfl (hb hby at_26) rfl k9) ?_
 refine o_q T (o_f41 m 29 x y st k frm to_ [(.int (10 : Int32)), (.int (k &&& (15 : Int32)))]) (fun _ k9 => XS.bipush X0.here hx rfl (hb hby at_27) k9) ?_
 refine o_q T (o_f41 m 30 x y st k frm to_ [(.int ((k &&& (15 : Int32)) % (10 : Int32)))]) (fun _ k9 => iremM X0 hx rfl (hb hby at_29) rfl (by decide) k9) ?_
 obtain ⟨sn, h_sn⟩ : ∃ z, z = ((k &&& (15 : Int32)) % (10 : Int32)) := ⟨_, rfl⟩
 rw [← h_sn]
 have r0 : 0 ≤ sn.toInt ∧ sn.toInt < 10 := h_sn ▸ o_snr k
 refine o_q T (o_f42 m 32 x y st k frm to_ sn []) (fun _ k9 => XS.istore X0.here hx rfl (hb hby at_30) rfl (l' := (o_t42 x y st k frm to_ sn)) rfl k9) ?_
 obtain ⟨T1, h1, X1, e1, E1, A1, D1, -, st1⟩ := newO X0 hx hZ hown (o_m hw 7 rfl) (o_m hw 8 rfl) (o_m hw 9 rfl) e0 (g := (o_f42 m 32 x y st k frm to_ sn [])) rfl (hb hby at_32) (by decide) (by decide)
 obtain ⟨b1, g1⟩ : ∃ z, z = hh.size := ⟨_, rfl⟩
 rw [← g1] at A1 D1 st1
 have g_b1 : n0 ≤ b1 := Nat.le_trans hsz (Nat.le_of_eq g1.symm)
 have F1_runs : Fld Z h1 b1 o_n1 "runs" "Lcom/example/gapwright/gapwright/profile/FreeRuns;" .null := D1 (Or.inr (o_m hw 26 rfl)) (ty := (.object o_n3)) (by decide)
 have F1_firstWith : Fld Z h1 b1 o_n1 "firstWith" "[J" .null := D1 (Or.inl (o_m hw 29 rfl)) (ty := (.array .long)) (by decide)
 have F1_openedAt : Fld Z h1 b1 o_n1 "openedAt" "[J" .null := D1 (Or.inl (o_m hw 33 rfl)) (ty := (.array .long)) (by decide)
 have F1_recent : Fld Z h1 b1 o_n1 "recent" "[J" .null := D1 (Or.inr (o_m hw 35 rfl)) (ty := (.array .long)) (by decide)
 have F1_watcher : Fld Z h1 b1 o_n1 "watcher" "Lcom/example/gapwright/gapwright/profile/CpuProfile$Watcher;" .null := D1 (Or.inl (o_m hw 39 rfl)) (ty := (.object o_n4)) (by decide)
 have F1_cpus : Fld Z h1 b1 o_n1 "cpus" "I" (.int (0 : Int32)) := D1 (Or.inr (o_m hw 41 rfl)) (ty := .int) (by decide)
 have F1_times : Fld Z h1 b1 o_n1 "times" "[J" .null := D1 (Or.inl (o_m hw 44 rfl)) (ty := (.array .long)) (by decide)
 have F1_free : Fld Z h1 b1 o_n1 "free" "[I" .null := D1 (Or.inl (o_m hw 47 rfl)) (ty := (.array .int)) (by decide)
 have F1_tail : Fld Z h1 b1 o_n1 "tail" "I" (.int (0 : Int32)) := D1 (Or.inl (o_m hw 49 rfl)) (ty := .int) (by decide)
 have F1_firstKnown : Fld Z h1 b1 o_n1 "firstKnown" "Z" (.int (0 : Int32)) := D1 (Or.inl (o_m hw 66 rfl)) (ty := .boolean) (by decide)
 have F1_watchedAs : Fld Z h1 b1 o_n1 "watchedAs" "I" (.int (0 : Int32)) := D1 (Or.inl (o_m hw 68 rfl)) (ty := .int) (by decide)
 have F1_changes : Fld Z h1 b1 o_n1 "changes" "J" (.long (0 : Int64)) := D1 (Or.inl (o_m hw 80 rfl)) (ty := .long) (by decide)
 have F1_head : Fld Z h1 b1 o_n1 "head" "I" (.int (0 : Int32)) := D1 (Or.inl (o_m hw 95 rfl)) (ty := .int) (by decide)
 have F1_lastAt : Fld Z h1 b1 o_n1 "lastAt" "I" (.int (0 : Int32)) := D1 (Or.inl (o_m hw 149 rfl)) (ty := .int) (by decide)
 have F1_merged : Fld Z h1 b1 o_n1 "merged" "J" (.long (0 : Int64)) := D1 (Or.inl (o_m hw 177 rfl)) (ty := .long) (by decide)
 have F1_gaveBack : Fld Z h1 b1 o_n1 "gaveBack" "J" (.long (0 : Int64)) := D1 (Or.inl (o_m hw 179 rfl)) (ty := .long) (by decide)
 refine o_q T1 (o_f42 m 35 x y st k frm to_ sn [(.ref b1)]) st1 ?_
 refine o_q T1 (o_f42 m 36 x y st k frm to_ sn [(.ref b1), (.ref b1)]) (fun _ k9 => XS.dup X1.here hx rfl (hb hby at_35) rfl rfl k9) ?_
 refine o_q T1 (o_f42 m 38 x y st k frm to_ sn [(.int (16 : Int32)), (.ref b1), (.ref b1)]) (fun _ k9 => XS.bipush X1.here hx rfl (hb hby at_36) k9) ?_
 have gp0 := g_b1
 obtain ⟨v2, T2, L2, hQ2, X2, st2⟩ := o_callN X1 hx hZ e1 hown rfl (o_m hw 10 rfl) (o_m hw 11 rfl) (by decide) (a := b1) (o_m hw 12 rfl) (o_m hw 9 rfl) (o_pinit l Z a0 hw n0 b1 wa ni h1 gp0 wl A1 (Ew0.ext E1) (Sn.ext E1) (Sw.ext E1) F1_runs F1_firstWith F1_openedAt F1_recent F1_watcher F1_cpus F1_times F1_free F1_tail F1_firstKnown F1_watchedAs F1_changes F1_head F1_lastAt F1_merged F1_gaveBack) (g := (o_f42 m 38 x y st k frm to_ sn [(.int (16 : Int32)), (.ref b1), (.ref b1)])) rfl (by rw [hml]; rfl) rfl (argsL := [(.int (16 : Int32))]) (rest := [(.ref b1)]) rfl (lenOf o_pd3 rfl) rfl (hb hby at_38) (o_b rfl) (o_b rfl) (o_b rfl) (o_b rfl)
 obtain ⟨h2, e2⟩ : ∃ z, T2.heap = z := ⟨_, rfl⟩
 rw [e2] at hQ2
 obtain ⟨pp, hpp⟩ : ∃ z, z = b1 := ⟨_, rfl⟩
 subst hpp
 obtain ⟨rc, ru, tmi, fri, xsi, fsi, rfl, N2, hR2, hx0, hf0⟩ := hQ2
 have N_2 := Fr.app NL N2
 have Xm2 : Stand p l e room_1 s m #[(.long x), (.long y), (.long st), (.int k)] below meth c T2 _ (6 + o_cL (4 : Int32)) (66 + o_sL (4 : Int32)) := X2.more (by decide) (by decide)
 refine o_q T2 (o_f42 m 41 x y st k frm to_ sn [(.ref pp)]) st2 ?_
 refine o_q T2 (o_f39 m 43 x y st k frm to_ sn pp []) (fun _ k9 => XS.astore Xm2.here hx rfl (hb hby at_41) rfl rfl (l' := (o_t39 x y st k frm to_ sn pp)) rfl k9) ?_
 refine o_q T2 (o_f39 m 45 x y st k frm to_ sn pp [(.ref pp)]) (fun _ k9 => XS.aload Xm2.here hx rfl (hb hby at_43) rfl rfl k9) ?_
 refine o_q T2 (o_f39 m 48 x y st k frm to_ sn pp [(.long (-9223372036854775808 : Int64)), (.ref pp)]) (fun _ k9 => Xm2.ldc2Long hx hown (mvT hZ (o_m hw 50 rfl)) (g := (o_f39 m 45 x y st k frm to_ sn pp [(.ref pp)])) rfl (hb hby at_45) _ k9) ?_
 refine o_q T2 (o_f39 m 51 x y st k frm to_ sn pp [(.long (9223372036854775807 : Int64)), (.long (-9223372036854775808 : Int64)), (.ref pp)]) (fun _ k9 => Xm2.ldc2Long hx hown (mvT hZ (o_m hw 51 rfl)) (g := (o_f39 m 48 x y st k frm to_ sn pp [(.long (-9223372036854775808 : Int64)), (.ref pp)])) rfl (hb hby at_48) _ k9) ?_
 refine o_q T2 (o_f39 m 53 x y st k frm to_ sn pp [(.int (8 : Int32)), (.long (9223372036854775807 : Int64)), (.long (-9223372036854775808 : Int64)), (.ref pp)]) (fun _ k9 => XS.bipush Xm2.here hx rfl (hb hby at_51) k9) ?_
 obtain ⟨v3, T3, L3, hQ3, X3, st3⟩ := o_callV Xm2 hx hZ e2 hown (o_m hw 52 rfl) (o_m hw 53 rfl) (o_m hw 55 rfl) (o_m hw 54 rfl) (by decide) (b := pp) hR2.1 (o_m hw 56 rfl) (o_m hw 9 rfl) (o_bookS_m8 l Z a0 hw n0 pp rc ru wa tmi fri (1 : Int32) (0 : Int32) (4 : Int32) (0 : Int64) (0 : Int64) xsi fsi (fun _ => 0) (-9223372036854775808 : Int64) (9223372036854775807 : Int64) 0 h2 hR2 (by decide) (by decide) (by decide) (by decide) (by decide) hx0 rfl hf0) (g := (o_f39 m 53 x y st k frm to_ sn pp [(.int (8 : Int32)), (.long (9223372036854775807 : Int64)), (.long (-9223372036854775808 : Int64)), (.ref pp)])) rfl (by rw [hml]; rfl) rfl (argsL := [(.long (-9223372036854775808 : Int64)), (.long (9223372036854775807 : Int64)), (.int (8 : Int32))]) (rest := []) rfl (lenOf o_pd14 rfl) rfl (hb hby at_53) (o_b rfl) (o_b rfl) (o_b rfl) (o_b rfl)
 obtain ⟨h3, e3⟩ : ∃ z, T3.heap = z := ⟨_, rfl⟩
 rw [e3] at hQ3
 obtain ⟨tm3, fr3, tl3, la3, xs3, fs3, rfl, N3, hR3, za3, zb3, zc3, zd3⟩ := hQ3
 have N_3 := Fr.app N_2 N3
 have k1 : (1 : Int32).toInt = 1 := by decide
 have k4 : (4 : Int32).toInt = 4 := by decide
 have ze3 := zc3.trans hx0
 have Xm3 : Stand p l e room_1 s m #[(.long x), (.long y), (.long st), (.int k)] below meth c T3 _ (6 + o_cL (4 : Int32)) (66 + o_sL (4 : Int32)) := X3.more (by decide) (by decide)
 refine o_q T3 (o_f39 m 56 x y st k frm to_ sn pp []) st3 ?_
 refine o_q T3 (o_f39 m 58 x y st k frm to_ sn pp [(.ref pp)]) (fun _ k9 => XS.aload Xm3.here hx rfl (hb hby at_56) rfl rfl k9) ?_
 refine o_q T3 (o_f39 m 60 x y st k frm to_ sn pp [(.long st), (.ref pp)]) (fun _ k9 => XS.lload Xm3.here hx rfl (hb hby at_58) rfl k9) ?_
 refine o_q T3 (o_f39 m 62 x y st k frm to_ sn pp [(.int k), (.long st), (.ref pp)]) (fun _ k9 => XS.iload Xm3.here hx rfl (hb hby at_60) rfl k9) ?_
 refine o_iC (0 : Int32) Xm3 hx hby at_62 rfl ?_
 obtain ⟨T4, h4, L4, tm4, fr4, tl4, la4, LL4, xs4, fs4, rs4, gb4, ch4, X4, e4, N4, hR4, ba4, bb4, bc4, bd4, be4, bf4, bg4, bh4, st4⟩ := o_applyX hw n0 pp rc ru wa tm3 fr3 tl3 la3 (4 : Int32) ((0 : Int64) + (1 : Int64)) (0 : Int64) xs3 fs3 (o_put (fun _ => 0) (0 + 1) (-9223372036854775808 : Int64) (9223372036854775807 : Int64) (0 : Int64)) st k (0 : Int32) 0 8 8 7 9 Xm3 hx hZ e3 hown hR3 za3 (by omega) (by decide) (by omega) (by decide) rfl (by decide) (by unfold o_D; omega) (by unfold o_D; omega) zd3 ze3 (o_Tab0 _ _ _) (g := (o_f39 m 63 x y st k frm to_ sn pp [(.int (0 : Int32)), (.int k), (.long st), (.ref pp)])) rfl (by rw [hml]; rfl) rfl rfl (hb hby at_63)
 have N_4 := Fr.app N_3 N4
 refine o_q T4 (o_f39 m 66 x y st k frm to_ sn pp []) st4 ?_
 refine o_q T4 (o_f39 m 68 x y st k frm to_ sn pp [(.ref pp)]) (fun _ k9 => XS.aload X4.here hx rfl (hb hby at_66) rfl rfl k9) ?_
 refine o_q T4 (o_f39 m 70 x y st k frm to_ sn pp [(.long st), (.ref pp)]) (fun _ k9 => XS.lload X4.here hx rfl (hb hby at_68) rfl k9) ?_
 refine o_q T4 (o_f39 m 72 x y st k frm to_ sn pp [(.int k), (.long st), (.ref pp)]) (fun _ k9 => XS.iload X4.here hx rfl (hb hby at_70) rfl k9) ?_
 refine o_iC (1 : Int32) X4 hx hby at_72 rfl ?_
 obtain ⟨T5, h5, L5, tm5, fr5, tl5, la5, LL5, xs5, fs5, rs5, gb5, ch5, X5, e5, N5, hR5, ba5, bb5, bc5, bd5, be5, bf5, bg5, bh5, st5⟩ := o_applyX hw n0 pp rc ru wa tm4 fr4 tl4 la4 LL4 ch4 gb4 xs4 fs4 rs4 st k (1 : Int32) 1 7 9 6 10 X4 hx hZ e4 hown hR4 ba4 bc4 bd4 (by omega) (by decide) rfl bh4 (by unfold o_D; omega) (by unfold o_D; omega) bf4 be4 bg4 (g := (o_f39 m 73 x y st k frm to_ sn pp [(.int (1 : Int32)), (.int k), (.long st), (.ref pp)])) rfl (by rw [hml]; rfl) rfl rfl (hb hby at_73)
 have N_5 := Fr.app N_4 N5
 refine o_q T5 (o_f39 m 76 x y st k frm to_ sn pp []) st5 ?_
 refine o_q T5 (o_f39 m 78 x y st k frm to_ sn pp [(.ref pp)]) (fun _ k9 => XS.aload X5.here hx rfl (hb hby at_76) rfl rfl k9) ?_
 refine o_q T5 (o_f39 m 80 x y st k frm to_ sn pp [(.long st), (.ref pp)]) (fun _ k9 => XS.lload X5.here hx rfl (hb hby at_78) rfl k9) ?_
 refine o_q T5 (o_f39 m 82 x y st k frm to_ sn pp [(.int k), (.long st), (.ref pp)]) (fun _ k9 => XS.iload X5.here hx rfl (hb hby at_80) rfl k9) ?_
 refine o_iC (2 : Int32) X5 hx hby at_82 rfl ?_
 obtain ⟨T6, h6, L6, tm6, fr6, tl6, la6, LL6, xs6, fs6, rs6, gb6, ch6, X6, e6, N6, hR6, ba6, bb6, bc6, bd6, be6, bf6, bg6, bh6, st6⟩ := o_applyX hw n0 pp rc ru wa tm5 fr5 tl5 la5 LL5 ch5 gb5 xs5 fs5 rs5 st k (2 : Int32) 2 6 10 5 11 X5 hx hZ e5 hown hR5 ba5 bc5 bd5 (by omega) (by decide) rfl bh5 (by unfold o_D; omega) (by unfold o_D; omega) bf5 be5 bg5 (g := (o_f39 m 83 x y st k frm to_ sn pp [(.int (2 : Int32)), (.int k), (.long st), (.ref pp)])) rfl (by rw [hml]; rfl) rfl rfl (hb hby at_83)
 have N_6 := Fr.app N_5 N6
 refine o_q T6 (o_f39 m 86 x y st k frm to_ sn pp []) st6 ?_
 refine o_q T6 (o_f39 m 88 x y st k frm to_ sn pp [(.ref pp)]) (fun _ k9 => XS.aload X6.here hx rfl (hb hby at_86) rfl rfl k9) ?_
 refine o_q T6 (o_f39 m 90 x y st k frm to_ sn pp [(.long st), (.ref pp)]) (fun _ k9 => XS.lload X6.here hx rfl (hb hby at_88) rfl k9) ?_
 refine o_q T6 (o_f39 m 92 x y st k frm to_ sn pp [(.int k), (.long st), (.ref pp)]) (fun _ k9 => XS.iload X6.here hx rfl (hb hby at_90) rfl k9) ?_
 refine o_iC (3 : Int32) X6 hx hby at_92 rfl ?_
 obtain ⟨T7, h7, L7, tm7, fr7, tl7, la7, LL7, xs7, fs7, rs7, gb7, ch7, X7, e7, N7, hR7, ba7, bb7, bc7, bd7, be7, bf7, bg7, bh7, st7⟩ := o_applyX hw n0 pp rc ru wa tm6 fr6 tl6 la6 LL6 ch6 gb6 xs6 fs6 rs6 st k (3 : Int32) 3 5 11 4 12 X6 hx hZ e6 hown hR6 ba6 bc6 bd6 (by omega) (by decide) rfl bh6 (by unfold o_D; omega) (by unfold o_D; omega) bf6 be6 bg6 (g := (o_f39 m 93 x y st k frm to_ sn pp [(.int (3 : Int32)), (.int k), (.long st), (.ref pp)])) rfl (by rw [hml]; rfl) rfl rfl (hb hby at_93)
 have N_7 := Fr.app N_6 N7
 refine o_q T7 (o_f39 m 96 x y st k frm to_ sn pp []) st7 ?_
 refine o_q T7 (o_f39 m 98 x y st k frm to_ sn pp [(.ref pp)]) (fun _ k9 => XS.aload X7.here hx rfl (hb hby at_96) rfl rfl k9) ?_
 refine o_q T7 (o_f39 m 100 x y st k frm to_ sn pp [(.long st), (.ref pp)]) (fun _ k9 => XS.lload X7.here hx rfl (hb hby at_98) rfl k9) ?_
 refine o_q T7 (o_f39 m 102 x y st k frm to_ sn pp [(.int k), (.long st), (.ref pp)]) (fun _ k9 => XS.iload X7.here hx rfl (hb hby at_100) rfl k9) ?_
 refine o_iC (4 : Int32) X7 hx hby at_102 rfl ?_
 obtain ⟨T8, h8, L8, tm8, fr8, tl8, la8, LL8, xs8, fs8, rs8, gb8, ch8, X8, e8, N8, hR8, ba8, bb8, bc8, bd8, be8, bf8, bg8, bh8, st8⟩ := o_applyX hw n0 pp rc ru wa tm7 fr7 tl7 la7 LL7 ch7 gb7 xs7 fs7 rs7 st k (4 : Int32) 4 4 12 3 13 X7 hx hZ e7 hown hR7 ba7 bc7 bd7 (by omega) (by decide) rfl bh7 (by unfold o_D; omega) (by unfold o_D; omega) bf7 be7 bg7 (g := (o_f39 m 103 x y st k frm to_ sn pp [(.int (4 : Int32)), (.int k), (.long st), (.ref pp)])) rfl (by rw [hml]; rfl) rfl rfl (hb hby at_103)
 have N_8 := Fr.app N_7 N8
 refine o_q T8 (o_f39 m 106 x y st k frm to_ sn pp []) st8 ?_
 refine o_q T8 (o_f39 m 108 x y st k frm to_ sn pp [(.ref pp)]) (fun _ k9 => XS.aload X8.here hx rfl (hb hby at_106) rfl rfl k9) ?_
 refine o_q T8 (o_f39 m 110 x y st k frm to_ sn pp [(.long st), (.ref pp)]) (fun _ k9 => XS.lload X8.here hx rfl (hb hby at_108) rfl k9) ?_
 refine o_q T8 (o_f39 m 112 x y st k frm to_ sn pp [(.int k), (.long st), (.ref pp)]) (fun _ k9 => XS.iload X8.here hx rfl (hb hby at_110) rfl k9) ?_
 refine o_iC (5 : Int32) X8 hx hby at_112 rfl ?_
 obtain ⟨T9, h9, L9, tm9, fr9, tl9, la9, LL9, xs9, fs9, rs9, gb9, ch9, X9, e9, N9, hR9, ba9, bb9, bc9, bd9, be9, bf9, bg9, bh9, st9⟩ := o_applyX hw n0 pp rc ru wa tm8 fr8 tl8 la8 LL8 ch8 gb8 xs8 fs8 rs8 st k (5 : Int32) 5 3 13 2 14 X8 hx hZ e8 hown hR8 ba8 bc8 bd8 (by omega) (by decide) rfl bh8 (by unfold o_D; omega) (by unfold o_D; omega) bf8 be8 bg8 (g := (o_f39 m 113 x y st k frm to_ sn pp [(.int (5 : Int32)), (.int k), (.long st), (.ref pp)])) rfl (by rw [hml]; rfl) rfl rfl (hb hby at_113)
 have N_9 := Fr.app N_8 N9
 refine o_q T9 (o_f39 m 116 x y st k frm to_ sn pp []) st9 ?_
 refine o_q T9 (o_f39 m 118 x y st k frm to_ sn pp [(.ref pp)]) (fun _ k9 => XS.aload X9.here hx rfl (hb hby at_116) rfl rfl k9) ?_
 refine o_q T9 (o_f39 m 120 x y st k frm to_ sn pp [(.long st), (.ref pp)]) (fun _ k9 => XS.lload X9.here hx rfl (hb hby at_118) rfl k9) ?_
 refine o_q T9 (o_f39 m 122 x y st k frm to_ sn pp [(.int k), (.long st), (.ref pp)]) (fun _ k9 => XS.iload X9.here hx rfl (hb hby at_120) rfl k9) ?_
 refine o_q T9 (o_f39 m 124 x y st k frm to_ sn pp [(.int (6 : Int32)), (.int k), (.long st), (.ref pp)]) (fun _ k9 => XS.bipush X9.here hx rfl (hb hby at_122) k9) ?_
 obtain ⟨T10, h10, L10, tm10, fr10, tl10, la10, LL10, xs10, fs10, rs10, gb10, ch10, X10, e10, N10, hR10, ba10, bb10, bc10, bd10, be10, bf10, bg10, bh10, st10⟩ := o_applyX hw n0 pp rc ru wa tm9 fr9 tl9 la9 LL9 ch9 gb9 xs9 fs9 rs9 st k (6 : Int32) 6 2 14 1 15 X9 hx hZ e9 hown hR9 ba9 bc9 bd9 (by omega) (by decide) rfl bh9 (by unfold o_D; omega) (by unfold o_D; omega) bf9 be9 bg9 (g := (o_f39 m 124 x y st k frm to_ sn pp [(.int (6 : Int32)), (.int k), (.long st), (.ref pp)])) rfl (by rw [hml]; rfl) rfl rfl (hb hby at_124)
 have N_10 := Fr.app N_9 N10
 refine o_q T10 (o_f39 m 127 x y st k frm to_ sn pp []) st10 ?_
 refine o_q T10 (o_f39 m 129 x y st k frm to_ sn pp [(.ref pp)]) (fun _ k9 => XS.aload X10.here hx rfl (hb hby at_127) rfl rfl k9) ?_
 refine o_q T10 (o_f39 m 131 x y st k frm to_ sn pp [(.long st), (.ref pp)]) (fun _ k9 => XS.lload X10.here hx rfl (hb hby at_129) rfl k9) ?_
 refine o_q T10 (o_f39 m 133 x y st k frm to_ sn pp [(.int k), (.long st), (.ref pp)]) (fun _ k9 => XS.iload X10.here hx rfl (hb hby at_131) rfl k9) ?_
 refine o_q T10 (o_f39 m 135 x y st k frm to_ sn pp [(.int (7 : Int32)), (.int k), (.long st), (.ref pp)]) (fun _ k9 => XS.bipush X10.here hx rfl (hb hby at_133) k9) ?_
 obtain ⟨T11, h11, L11, tm11, fr11, tl11, la11, LL11, xs11, fs11, rs11, gb11, ch11, X11, e11, N11, hR11, ba11, bb11, bc11, bd11, be11, bf11, bg11, bh11, st11⟩ := o_applyX hw n0 pp rc ru wa tm10 fr10 tl10 la10 LL10 ch10 gb10 xs10 fs10 rs10 st k (7 : Int32) 7 1 15 0 16 X10 hx hZ e10 hown hR10 ba10 bc10 bd10 (by omega) (by decide) rfl bh10 (by unfold o_D; omega) (by unfold o_D; omega) bf10 be10 bg10 (g := (o_f39 m 135 x y st k frm to_ sn pp [(.int (7 : Int32)), (.int k), (.long st), (.ref pp)])) rfl (by rw [hml]; rfl) rfl rfl (hb hby at_135)
 have N_11 := Fr.app N_10 N11
 refine o_q T11 (o_f39 m 138 x y st k frm to_ sn pp []) st11 ?_
 have cl12 := o_cL_le LL11
 have Xo12 : Stand p l e room_1 s m #[(.long x), (.long y), (.long st), (.int k)] below meth c T11 _ 12 258 := X11.more (by omega) (by omega)
 exact o_N Z a0 hw n0 x y st k pp rc ru wa tm11 fr11 tl11 la11 LL11 ch11 gb11 xs11 fs11 rs11 frm to_ sn hx hby hml hZ hown hret hlk Xo12 e11 N_11 hR11 bh11 bg11 r0
theorem o_pn0 : plainFor (⟨o_n5, "law", "(JJJI)Z"⟩ : MethodName) = true := plainFor_of_name (by first | (simp [plainName, overriddenIn]; done) | decide +kernel)
theorem o_d1_0 : decode o_y20 0 = .ok (.lload_n 0, 1) := by decide +kernel
theorem o_d1_1 : decode o_y20 1 = .ok (.lload_n 2, 1) := by decide +kernel
theorem o_d1_2 : decode o_y20 2 = .ok (.lcmp, 1) := by decide +kernel
theorem o_d1_3 : decode o_y20 3 = .ok (.ifCond .gt 7, 3) := by decide +kernel
theorem o_d1_10 : decode o_y20 10 = .ok (.lload_n 2, 1) := by decide +kernel
theorem o_d1_11 : decode o_y20 11 = .ok (.lreturn, 1) := by decide +kernel
theorem o_d1_6 : decode o_y20 6 = .ok (.lload_n 0, 1) := by decide +kernel
theorem o_d1_7 : decode o_y20 7 = .ok (.goto 4, 3) := by decide +kernel
theorem o_pn1 : plainFor (⟨"java/lang/Math", "min", "(JJ)J"⟩ : MethodName) = true := Jvm.Free.JP.mathPlain rfl (by decide +kernel)
set_option maxRecDepth 65536 in
set_option maxHeartbeats 40000000 in
theorem o_k1_8 (l : Launch) (Z : State) (a0 : Array Value) (hw : ∀ d ∈ tables_1, d.before a0 Z = true) (p0 : Int64) (p1 : Int64) (h0 : Heap)  :
  o_C l (⟨"java/lang/Math", "min", "(JJ)J"⟩ : MethodName) o_y20 4 (some .long) (o_R 0 0 0 0) Z h0 #[(.long p0), (.long p1)] (o_P (some (if p1 < p0 then (.long p1) else (.long p0))) h0) := by
 refine o_body o_pn1 ?_
 intro p e s m below meth c s₁ hx hby hml hZ hown hnm hret hlk X0 e0
 refine o_cast (f' := (o_f43 m 0 p0 p1 [])) (by first | (simp [entryFrame, mkF, argsToLocals, Value.category, maxLocals]; done) | rfl) ?_
 refine o_q s₁ (o_f43 m 1 p0 p1 [(.long p0)]) (fun _ k9 => XS.lloadN X0.here hx rfl (hb hby o_d1_0) rfl k9) ?_
 refine o_q s₁ (o_f43 m 2 p0 p1 [(.long p1), (.long p0)]) (fun _ k9 => XS.lloadN X0.here hx rfl (hb hby o_d1_1) rfl k9) ?_
 refine o_q s₁ (o_f43 m 3 p0 p1 [(.int (lcmpW p0 p1))]) (fun _ k9 => XS.lcmp X0.here hx rfl (hb hby o_d1_2) rfl k9) ?_
 by_cases c0 : p1 < p0
 ·refine o_fY 10 X0 hx hby o_d1_3 ((if0 _ _).trans (tlt ((lw_gt _ _).mpr c0)).2.2.1) ?_
  refine o_q s₁ (o_f43 m 11 p0 p1 [(.long p1)]) (fun _ k9 => XS.lloadN X0.here hx rfl (hb hby o_d1_10) rfl k9) ?_
  exact o_retJ X0 hx hlk hret (hb hby o_d1_11) ⟨by simp only [if_pos c0], rfl, e0⟩ (by decide) (by decide)
 ·refine o_fN X0 hx hby o_d1_3 ((if0 _ _).trans (flt (mt (lw_gt _ _).mp c0)).2.2.1) ?_
  refine o_q s₁ (o_f43 m 7 p0 p1 [(.long p0)]) (fun _ k9 => XS.lloadN X0.here hx rfl (hb hby o_d1_6) rfl k9) ?_
  refine o_go 11 X0 hx hby o_d1_7 ?_
  exact o_retJ X0 hx hlk hret (hb hby o_d1_11) ⟨by simp only [if_neg c0], rfl, e0⟩ (by decide) (by decide)
theorem o_pd13 : parseMethodDescriptor "(JJ)J" = some ⟨[.long, .long], some .long⟩ := by decide +kernel
theorem o_d2_0 : decode o_y21 0 = .ok (.lload_n 0, 1) := by decide +kernel
theorem o_d2_1 : decode o_y21 1 = .ok (.lload_n 2, 1) := by decide +kernel
theorem o_d2_2 : decode o_y21 2 = .ok (.lcmp, 1) := by decide +kernel
theorem o_d2_3 : decode o_y21 3 = .ok (.ifCond .lt 7, 3) := by decide +kernel
theorem o_d2_10 : decode o_y21 10 = .ok (.lload_n 2, 1) := by decide +kernel
theorem o_d2_11 : decode o_y21 11 = .ok (.lreturn, 1) := by decide +kernel
theorem o_d2_6 : decode o_y21 6 = .ok (.lload_n 0, 1) := by decide +kernel
theorem o_d2_7 : decode o_y21 7 = .ok (.goto 4, 3) := by decide +kernel
theorem o_pn2 : plainFor (⟨"java/lang/Math", "max", "(JJ)J"⟩ : MethodName) = true := Jvm.Free.JP.mathPlain rfl (by decide +kernel)
set_option maxRecDepth 65536 in
set_option maxHeartbeats 40000000 in
theorem o_k2_9 (l : Launch) (Z : State) (a0 : Array Value) (hw : ∀ d ∈ tables_1, d.before a0 Z = true) (p0 : Int64) (p1 : Int64) (h0 : Heap)  :
  o_C l (⟨"java/lang/Math", "max", "(JJ)J"⟩ : MethodName) o_y21 4 (some .long) (o_R 0 0 0 0) Z h0 #[(.long p0), (.long p1)] (o_P (some (if p0 < p1 then (.long p1) else (.long p0))) h0) := by
 refine o_body o_pn2 ?_
 intro p e s m below meth c s₁ hx hby hml hZ hown hnm hret hlk X0 e0
 refine o_cast (f' := (o_f43 m 0 p0 p1 [])) (by first | (simp [entryFrame, mkF, argsToLocals, Value.category, maxLocals]; done) | rfl) ?_
 refine o_q s₁ (o_f43 m 1 p0 p1 [(.long p0)]) (fun _ k9 => XS.lloadN X0.here hx rfl (hb hby o_d2_0) rfl k9) ?_
 refine o_q s₁ (o_f43 m 2 p0 p1 [(.long p1), (.long p0)]) (fun _ k9 => XS.lloadN X0.here hx rfl (hb hby o_d2_1) rfl k9) ?_
 refine o_q s₁ (o_f43 m 3 p0 p1 [(.int (lcmpW p0 p1))]) (fun _ k9 => XS.lcmp X0.here hx rfl (hb hby o_d2_2) rfl k9) ?_
 by_cases c0 : p0 < p1
 ·refine o_fY 10 X0 hx hby o_d2_3 ((if0 _ _).trans (tlt ((lw_lt _ _).mpr c0)).1) ?_
  refine o_q s₁ (o_f43 m 11 p0 p1 [(.long p1)]) (fun _ k9 => XS.lloadN X0.here hx rfl (hb hby o_d2_10) rfl k9) ?_
  exact o_retJ X0 hx hlk hret (hb hby o_d2_11) ⟨by simp only [if_pos c0], rfl, e0⟩ (by decide) (by decide)
 ·refine o_fN X0 hx hby o_d2_3 ((if0 _ _).trans (flt (mt (lw_lt _ _).mp c0)).1) ?_
  refine o_q s₁ (o_f43 m 7 p0 p1 [(.long p0)]) (fun _ k9 => XS.lloadN X0.here hx rfl (hb hby o_d2_6) rfl k9) ?_
  refine o_go 11 X0 hx hby o_d2_7 ?_
  exact o_retJ X0 hx hlk hret (hb hby o_d2_11) ⟨by simp only [if_neg c0], rfl, e0⟩ (by decide) (by decide)
set_option maxRecDepth 65536 in
set_option maxHeartbeats 40000000 in
theorem o_rm0 (l : Launch) (Z : State) (a0 : Array Value) (hw : ∀ d ∈ tables_1, d.before a0 Z = true) (ws : List Jvm.Cond) (q0 : Int64) (q1 : Int64) (q2 : Int64) (k : Int32) (wa ni : Addr) (h0 : Heap) (wl : wa < h0.size) (Ew0 : Exa Z h0 wa o_n2) (Sn : Sta Z h0 o_n1 "NO_INSTANTS" "[J" (.ref ni)) (Sw : Sta Z h0 o_n1 "UNWATCHED" "Lcom/example/gapwright/gapwright/profile/CpuProfile$Watcher;" (.ref wa)) :
  o_C0 l x code maxLocals ret ws room_1 Z h0 #[(.long q0), (.long q1), (.long q2), (.int k)] (fun v h L => v = some (.int (1 : Int32)) ∧ Fr h0.size L) 32 320 := by
 refine o_body o_pn0 ?_
 intro p e s m below meth c s₁ hx hby hml hZ hown hnm hret hlk X0 e0
 refine o_cast (f' := (o_f44 m 0 q0 q1 q2 k [])) (by first | (simp [entryFrame, mkF, argsToLocals, Value.category, maxLocals]; done) | rfl) ?_
 refine o_q s₁ (o_f44 m 1 q0 q1 q2 k [(.long q0)]) (fun _ k9 => XS.lloadN X0.here hx rfl (hb hby at_0) rfl k9) ?_
 refine o_q s₁ (o_f44 m 2 q0 q1 q2 k [(.long q1), (.long q0)]) (fun _ k9 => XS.lloadN X0.here hx rfl (hb hby at_1) rfl k9) ?_
 refine o_q s₁ (o_f44 m 3 q0 q1 q2 k [(.int (lcmpW q0 q1))]) (fun _ k9 => XS.lcmp X0.here hx rfl (hb hby at_2) rfl k9) ?_
 by_cases c0 : q0 = q1
 ·refine o_fN X0 hx hby at_3 ((if0 _ _).trans (teq ((lw_eq _ _).mpr c0)).2) ?_
  refine o_iC (1 : Int32) X0 hx hby at_6 rfl ?_
  exact o_retN X0 hx hlk (t := .boolean) hret (by simp) (hb hby at_7) ⟨rfl, Fr.nil _⟩ (by decide) (by decide)
 ·refine o_fY 8 X0 hx hby at_3 ((if0 _ _).trans (feq (mt (lw_eq _ _).mp c0)).2) ?_
  refine o_q s₁ (o_f44 m 9 q0 q1 q2 k [(.long q0)]) (fun _ k9 => XS.lloadN X0.here hx rfl (hb hby at_8) rfl k9) ?_
  refine o_q s₁ (o_f44 m 10 q0 q1 q2 k [(.long q1), (.long q0)]) (fun _ k9 => XS.lloadN X0.here hx rfl (hb hby at_9) rfl k9) ?_
  obtain ⟨v1, T1, L1, hQ1, X1, st1⟩ := o_callS X0 hx hZ e0 hown (o_m hw 0 rfl) (o_m hw 1 rfl) (by decide) (o_m hw 3 rfl) (o_m hw 2 rfl) (o_k1_8 l Z a0 hw q0 q1 h0 ) (g := (o_f44 m 10 q0 q1 q2 k [(.long q1), (.long q0)])) rfl (by rw [hml]; rfl) rfl (argsL := [(.long q0), (.long q1)]) (rest := []) rfl (lenOf o_pd13 rfl) rfl (hb hby at_10) (o_b rfl) (o_b rfl) (o_b rfl) (o_b rfl)
  obtain ⟨rfl, rfl, e1⟩ := hQ1
  rw [List.append_nil] at X1
  by_cases c1 : q1 < q0
  ·rw [if_pos c1] at st1
   refine o_q T1 (o_f44 m 13 q0 q1 q2 k [(.long q1)]) st1 ?_
   refine o_q T1 (o_f45 m 15 q0 q1 q2 k q1 []) (fun _ k9 => XS.lstore X1.here hx rfl (hb hby at_13) rfl (l' := (o_t45 q0 q1 q2 k q1)) rfl k9) ?_
   refine o_q T1 (o_f45 m 16 q0 q1 q2 k q1 [(.long q0)]) (fun _ k9 => XS.lloadN X1.here hx rfl (hb hby at_15) rfl k9) ?_
   refine o_q T1 (o_f45 m 17 q0 q1 q2 k q1 [(.long q1), (.long q0)]) (fun _ k9 => XS.lloadN X1.here hx rfl (hb hby at_16) rfl k9) ?_
   obtain ⟨v2, T2, L2, hQ2, X2, st2⟩ := o_callS X1 hx hZ e1 hown (o_m hw 4 rfl) (o_m hw 5 rfl) (by decide) (o_m hw 6 rfl) (o_m hw 2 rfl) (o_k2_9 l Z a0 hw q0 q1 h0 ) (g := (o_f45 m 17 q0 q1 q2 k q1 [(.long q1), (.long q0)])) rfl (by rw [hml]; rfl) rfl (argsL := [(.long q0), (.long q1)]) (rest := []) rfl (lenOf o_pd13 rfl) rfl (hb hby at_17) (o_b rfl) (o_b rfl) (o_b rfl) (o_b rfl)
   obtain ⟨rfl, rfl, e2⟩ := hQ2
   rw [List.append_nil] at X2
   by_cases c2 : q0 < q1
   ·rw [if_pos c2] at st2
    refine o_q T2 (o_f45 m 20 q0 q1 q2 k q1 [(.long q1)]) st2 ?_
    refine o_q T2 (o_f41 m 22 q0 q1 q2 k q1 q1 []) (fun _ k9 => XS.lstore X2.here hx rfl (hb hby at_20) rfl (l' := (o_t41 q0 q1 q2 k q1 q1)) rfl k9) ?_
    exact o_M Z a0 hw h0.size q0 q1 q2 k q1 q1 wa ni hx hby hml hZ hown hret hlk X2 e2 (Fr.nil _) (Nat.le_refl _) wl Ew0 Sn Sw
   ·rw [if_neg c2] at st2
    refine o_q T2 (o_f45 m 20 q0 q1 q2 k q1 [(.long q0)]) st2 ?_
    refine o_q T2 (o_f41 m 22 q0 q1 q2 k q1 q0 []) (fun _ k9 => XS.lstore X2.here hx rfl (hb hby at_20) rfl (l' := (o_t41 q0 q1 q2 k q1 q0)) rfl k9) ?_
    exact o_M Z a0 hw h0.size q0 q1 q2 k q1 q0 wa ni hx hby hml hZ hown hret hlk X2 e2 (Fr.nil _) (Nat.le_refl _) wl Ew0 Sn Sw
  ·rw [if_neg c1] at st1
   refine o_q T1 (o_f44 m 13 q0 q1 q2 k [(.long q0)]) st1 ?_
   refine o_q T1 (o_f45 m 15 q0 q1 q2 k q0 []) (fun _ k9 => XS.lstore X1.here hx rfl (hb hby at_13) rfl (l' := (o_t45 q0 q1 q2 k q0)) rfl k9) ?_
   refine o_q T1 (o_f45 m 16 q0 q1 q2 k q0 [(.long q0)]) (fun _ k9 => XS.lloadN X1.here hx rfl (hb hby at_15) rfl k9) ?_
   refine o_q T1 (o_f45 m 17 q0 q1 q2 k q0 [(.long q1), (.long q0)]) (fun _ k9 => XS.lloadN X1.here hx rfl (hb hby at_16) rfl k9) ?_
   obtain ⟨v3, T3, L3, hQ3, X3, st3⟩ := o_callS X1 hx hZ e1 hown (o_m hw 4 rfl) (o_m hw 5 rfl) (by decide) (o_m hw 6 rfl) (o_m hw 2 rfl) (o_k2_9 l Z a0 hw q0 q1 h0 ) (g := (o_f45 m 17 q0 q1 q2 k q0 [(.long q1), (.long q0)])) rfl (by rw [hml]; rfl) rfl (argsL := [(.long q0), (.long q1)]) (rest := []) rfl (lenOf o_pd13 rfl) rfl (hb hby at_17) (o_b rfl) (o_b rfl) (o_b rfl) (o_b rfl)
   obtain ⟨rfl, rfl, e3⟩ := hQ3
   rw [List.append_nil] at X3
   by_cases c2 : q0 < q1
   ·rw [if_pos c2] at st3
    refine o_q T3 (o_f45 m 20 q0 q1 q2 k q0 [(.long q1)]) st3 ?_
    refine o_q T3 (o_f41 m 22 q0 q1 q2 k q0 q1 []) (fun _ k9 => XS.lstore X3.here hx rfl (hb hby at_20) rfl (l' := (o_t41 q0 q1 q2 k q0 q1)) rfl k9) ?_
    exact o_M Z a0 hw h0.size q0 q1 q2 k q0 q1 wa ni hx hby hml hZ hown hret hlk X3 e3 (Fr.nil _) (Nat.le_refl _) wl Ew0 Sn Sw
   ·rw [if_neg c2] at st3
    refine o_q T3 (o_f45 m 20 q0 q1 q2 k q0 [(.long q0)]) st3 ?_
    refine o_q T3 (o_f41 m 22 q0 q1 q2 k q0 q0 []) (fun _ k9 => XS.lstore X3.here hx rfl (hb hby at_20) rfl (l' := (o_t41 q0 q1 q2 k q0 q0)) rfl k9) ?_
    exact o_M Z a0 hw h0.size q0 q1 q2 k q0 q0 wa ni hx hby hml hZ hown hret hlk X3 e3 (Fr.nil _) (Nat.le_refl _) wl Ew0 Sn Sw
set_option maxRecDepth 65536 in
set_option maxHeartbeats 40000000 in
theorem o_comes {Post : Tables → Env → Array Value → State → Outcome → State → Prop} (hpost : ∀ tb e args s v u, (limb_1_1.after args s (.returned v) u = true ∧ limb_1_2.after args s (.returned v) u = true ∧ True) → FrameEnd s (.returned v) u (Jvm.fieldLocs frame_1_writes args s ++ Jvm.arrayLocs frame_1_arrays args s ++ Jvm.staticLocs frame_1_statics s) 32 320 → Post tb e args s (.returned v) u) :
  ArmFor flags0 classFile x code maxLocals ret World_1 tables_1 room_1 Calls_1 rest_1 Pre_1 Post := by
 intro l hfl _ _ p e ha hc hk s m args below hf hA hF happ hP
 obtain ⟨hcalls, hrest, hpre⟩ := hP
 obtain ⟨-, -, -, hnamed, -, -, -, hat⟩ := (Spec.applies_iff hf).mp happ
 obtain ⟨hg, hn⟩ := and_e (Cond.before_iff.mp (show (Jvm.Cond.and given_1 narrow_1).before args s = true from hpre))
 obtain ⟨g0, g0'⟩ := and_e hg
 obtain ⟨g1, g1'⟩ := and_e g0'
 obtain ⟨g2, g2'⟩ := and_e g1'
 obtain ⟨g3, g3'⟩ := and_e g2'
 obtain ⟨w0, w1, w2, w3, rfl⟩ : ∃ w0 w1 w2 w3 : Value, args = #[w0, w1, w2, w3] := by
  have hs : args.size = 4 := by simpa [Cond.value, given_1] using g0
  obtain ⟨L⟩ := args
  match L, hs with
  | [w0, w1, w2, w3], _ => exact ⟨w0, w1, w2, w3, rfl⟩
 have hw := fun d (hd : d ∈ tables_1) => atoms_spec (ws := Jvm.Cond.code x code maxLocals ret :: tables_1) hat d (List.mem_cons_of_mem _ hd)
 have hfit : Fit s := fun {y c} hc i hi => by
  obtain ⟨ha, rfl⟩ := Array.getElem?_eq_some_iff.mp hc
  have q := List.all_eq_true.mp ((Array.all_eq_true_iff_forall_mem.mp hF) _ (Array.getElem_mem ha)) i (List.mem_range.mpr hi)
  simpa [Array.getElem?_eq_getElem hi] using q
 obtain ⟨i0, ei0⟩ := isL_v g1
 obtain rfl : w0 = (.long i0) := Option.some.inj ei0
 obtain ⟨i1, ei1⟩ := isL_v g2
 obtain rfl : w1 = (.long i1) := Option.some.inj ei1
 obtain ⟨i2, ei2⟩ := isL_v g3
 obtain rfl : w2 = (.long i2) := Option.some.inj ei2
 obtain ⟨i3, ei3⟩ := is_v g3'
 obtain rfl : w3 = (.int i3) := Option.some.inj ei3
 obtain ⟨n0, n0'⟩ := and_e hn
 obtain ⟨n1, n1'⟩ := and_e n0'
 obtain ⟨s_CpuProfile_NO_INSTANTS, v_CpuProfile_NO_INSTANTS⟩ := arr_v n0
 have S_CpuProfile_NO_INSTANTS : Sta s s.heap o_n1 "NO_INSTANTS" "[J" (.ref s_CpuProfile_NO_INSTANTS) := Sta.start v_CpuProfile_NO_INSTANTS (Or.inr ⟨(o_m hw 9 rfl), (o_m hw 31 rfl)⟩)
 -- n1 says: (Jvm.Cond.eq (Jvm.Term.length (Jvm.Term.static o_n1 "NO_INSTANTS" "[J")) (Jvm.Term.int (0 : Int32)))
 obtain ⟨s_CpuProfile_UNWATCHED, v_CpuProfile_UNWATCHED⟩ := exa_v n1'
 have E_CpuProfile_UNWATCHED : Exa s s.heap s_CpuProfile_UNWATCHED o_n2 := Exa.start v_CpuProfile_UNWATCHED n1'
 have S_CpuProfile_UNWATCHED : Sta s s.heap o_n1 "UNWATCHED" "Lcom/example/gapwright/gapwright/profile/CpuProfile$Watcher;" (.ref s_CpuProfile_UNWATCHED) := Sta.start v_CpuProfile_UNWATCHED (Or.inr ⟨(o_m hw 9 rfl), (o_m hw 37 rfl)⟩)
 obtain ⟨n, o, h1, h2, h3, _, L, rfl, ⟨rfl, N⟩, hq⟩ := o_rm0 l s _ hw tables_1 i0 i1 i2 i3 s_CpuProfile_UNWATCHED s_CpuProfile_NO_INSTANTS s.heap E_CpuProfile_UNWATCHED.lt E_CpuProfile_UNWATCHED S_CpuProfile_NO_INSTANTS S_CpuProfile_UNWATCHED p e ha hc hk s m _ below hf ((Spec.applies_iff_loose hf).mp happ).1 ⟨rfl, State.Warmed39.refl s, rfl⟩ trivial
 refine ⟨n, _, h1, h2, h3, hpost _ _ _ _ _ _ ⟨Cond.after_iff.mpr rfl, Cond.after_iff.mpr (eq_i res_at (Term.int_eval (1)) rfl), trivial⟩ ⟨hq.1, hq.2.1, (hq.2.2.sift fun y hy => Or.inr (N y hy)).mono (by decide) (by decide)⟩⟩
theorem main_1_1 : Claimed_1_1 := o_comes fun _ _ _ _ _ _ h hF => ⟨h.1, hF⟩
theorem main_1_2 : Claimed_1_2 := o_comes fun _ _ _ _ _ _ h hF => ⟨h.2.1, hF⟩
end Jvm.Pilot.@@N@@
namespace Jvm.Pilot.@@N@@
open Jvm Jvm.ClassFile Sem Op Lib Jvm.Free Jvm.Stand Jvm.Pilot.@@N@@.Jvm.D
/-! MADE BY PROGRAM (witnessworld.py) out of the Statement's table words and the real class files: 16 classes; the members and pool entries that the words name. The judged class is class 1, her method 1. -/
namespace start1
open Jvm.ClassFile
def u (s : String) : CpInfo := .utf8 (stringToUtf16 s)
/-- a pool by its gaps: so many unusable entries, then the entry; so many at the end -/
def gap : Nat → List CpInfo → List CpInfo
  | 0, r => r
  | n + 1, r => .unusable :: gap n r
def poolList (es : List (Nat × CpInfo)) (last : Nat) : List CpInfo := es.foldr (fun e r => gap e.1 (e.2 :: r)) (gap last [])
def pool (es : List (Nat × CpInfo)) (last : Nat) : Array CpInfo := ⟨poolList es last⟩
def fileOf (pool : Array CpInfo) (this : Nat) (attrs : Array Attribute := #[]) (ms : Array MethodInfo := #[]) (fl : Nat := 33) (sup : Nat := 0) (ifs : Array Nat := #[]) (fds : Array FieldInfo := #[]) : ClassFile where
  minorVersion := 0
  majorVersion := 65
  constantPool := pool
  accessFlags := fl
  thisClass := this
  superClass := sup
  interfaces := ifs
  fields := fds
  methods := ms
  attributes := attrs
def plain (name : String) (sup : Option ClassId) : Class where
  name := name
  kind := .ordinary
  loader := none
  accessFlags := 33
  super := sup
  interfaces := #[]
  cf := none
  fields := #[]
  methods := #[]
  instanceTypes := #[]
  staticTypes := #[]
  resolved := #[]
  callSites := []
  init := .initialized
  statics := none
  mirror := none

def pool0 : Array CpInfo := pool [(5, u "<init>"), (0, u "()V"), (1, .class_ 10), (1, u "java/lang/Object")] 113

def k0c0 : Code := { maxStack := 0, maxLocals := 1, code := object_method_1_code, exceptionTable := #[], attributes := #[] }
def k0m0 : Method := { name := "<init>", desc := "()V", sig := { parameters := [], returnType := none }, accessFlags := 1, code := some k0c0 }
/-- java/lang/Object -/
def k0 : Class := { plain "java/lang/Object" none with
  accessFlags := 33
  interfaces := #[]
  cf := some (fileOf pool0 8 #[] #[{ accessFlags := 1, nameIndex := 5, descriptorIndex := 6, attributes := #[] }] 33 0 #[] #[])
  fields := #[]
  methods := #[k0m0]
  instanceTypes := #[]
  staticTypes := #[]
  resolved := Array.replicate 124 none
  statics := none }

def pool1 : Array CpInfo := pool [(2, .class_ 4), (1, u "java/lang/Object"), (0, u "<init>"), (0, u "()V"), (0, .methodref 8 9), (0, .class_ 10), (0, .nameAndType 11 12), (0, u "java/lang/Math"), (0, u "min"), (0, u "(JJ)J"), (0, .methodref 8 14), (0, .nameAndType 15 12), (0, u "max"), (0, .class_ 17), (0, u "com/example/gapwright/gapwright/profile/CpuProfile"), (0, .methodref 16 19), (0, .nameAndType 5 20), (0, u "(I)V"), (2, .long 9223372036854775808), (1, .long 9223372036854775807), (1, .methodref 16 28), (0, .nameAndType 29 30), (0, u "book"), (0, u "(JJI)V"), (0, .methodref 32 33), (0, .class_ 34), (0, .nameAndType 35 36), (0, u "com/example/gapwright/gapwright/profile/CpuProfileChangedSincePinLaw"), (0, u "apply"), (0, u "(Lcom/example/gapwright/gapwright/profile/CpuProfile;JII)V"), (0, .methodref 32 38), (0, .nameAndType 39 40), (0, u "released"), (0, u "(II)Z"), (0, .methodref 32 42), (0, .nameAndType 43 44), (0, u "relBefore"), (0, u "(JIIIJ)Z"), (0, .methodref 32 46), (0, .nameAndType 47 48), (0, u "bookOver"), (0, u "(JIIIJJ)Z"), (0, .methodref 16 50), (0, .nameAndType 51 52), (0, u "changedSince"), (0, u "(JJJ)I"), (0, .methodref 32 54), (0, .nameAndType 55 56), (0, u "lowField"), (0, u "(JI)I"), (0, .methodref 32 58), (0, .nameAndType 59 56), (0, u "highField"), (0, .methodref 8 61), (0, .nameAndType 11 62), (0, u "(II)I"), (0, .methodref 32 64), (0, .nameAndType 65 66), (0, u "at"), (0, u "(I)J"), (0, .methodref 8 68), (0, .nameAndType 15 62), (0, .methodref 32 70), (0, .nameAndType 71 72), (0, u "start"), (0, u "(JI)J"), (0, .methodref 32 74), (0, .nameAndType 75 72), (0, u "end"), (0, .methodref 16 77), (0, .nameAndType 78 30), (0, u "release"), (2, u "law"), (0, u "(JJJI)Z")] 3

def k1m0 : Method := { name := "<init>", desc := "()V", sig := { parameters := [], returnType := none }, accessFlags := 1, code := none }
def k1c1 : Code := { maxStack := 9, maxLocals := 15, code := code, exceptionTable := #[], attributes := #[] }
def k1m1 : Method := { name := "law", desc := "(JJJI)Z", sig := { parameters := [.long, .long, .long, .int], returnType := some .boolean }, accessFlags := 9, code := some k1c1 }
def k1c2 : Code := { maxStack := 2, maxLocals := 1, code := method_3_code, exceptionTable := #[], attributes := #[] }
def k1m2 : Method := { name := "at", desc := "(I)J", sig := { parameters := [.int], returnType := some .long }, accessFlags := 10, code := some k1c2 }
def k1c3 : Code := { maxStack := 4, maxLocals := 3, code := method_4_code, exceptionTable := #[], attributes := #[] }
def k1m3 : Method := { name := "lowField", desc := "(JI)I", sig := { parameters := [.long, .int], returnType := some .int }, accessFlags := 10, code := some k1c3 }
def k1c4 : Code := { maxStack := 4, maxLocals := 3, code := method_5_code, exceptionTable := #[], attributes := #[] }
def k1m4 : Method := { name := "highField", desc := "(JI)I", sig := { parameters := [.long, .int], returnType := some .int }, accessFlags := 10, code := some k1c4 }
def k1c5 : Code := { maxStack := 4, maxLocals := 3, code := method_6_code, exceptionTable := #[], attributes := #[] }
def k1m5 : Method := { name := "start", desc := "(JI)J", sig := { parameters := [.long, .int], returnType := some .long }, accessFlags := 10, code := some k1c5 }
def k1c6 : Code := { maxStack := 4, maxLocals := 3, code := method_7_code, exceptionTable := #[], attributes := #[] }
def k1m6 : Method := { name := "end", desc := "(JI)J", sig := { parameters := [.long, .int], returnType := some .long }, accessFlags := 10, code := some k1c6 }
def k1c7 : Code := { maxStack := 3, maxLocals := 2, code := method_8_code, exceptionTable := #[], attributes := #[] }
def k1m7 : Method := { name := "released", desc := "(II)Z", sig := { parameters := [.int, .int], returnType := some .boolean }, accessFlags := 10, code := some k1c7 }
def k1c8 : Code := { maxStack := 6, maxLocals := 9, code := method_9_code, exceptionTable := #[], attributes := #[] }
def k1m8 : Method := { name := "apply", desc := "(Lcom/example/gapwright/gapwright/profile/CpuProfile;JII)V", sig := { parameters := [(.object "com/example/gapwright/gapwright/profile/CpuProfile"), .long, .int, .int], returnType := none }, accessFlags := 10, code := some k1c8 }
def k1c9 : Code := { maxStack := 4, maxLocals := 7, code := method_10_code, exceptionTable := #[], attributes := #[] }
def k1m9 : Method := { name := "relBefore", desc := "(JIIIJ)Z", sig := { parameters := [.long, .int, .int, .int, .long], returnType := some .boolean }, accessFlags := 10, code := some k1c9 }
def k1c10 : Code := { maxStack := 4, maxLocals := 9, code := method_11_code, exceptionTable := #[], attributes := #[] }
def k1m10 : Method := { name := "bookOver", desc := "(JIIIJJ)Z", sig := { parameters := [.long, .int, .int, .int, .long, .long], returnType := some .boolean }, accessFlags := 10, code := some k1c10 }
/-- com/example/gapwright/gapwright/profile/CpuProfileChangedSincePinLaw -/
def k1 : Class := { plain "com/example/gapwright/gapwright/profile/CpuProfileChangedSincePinLaw" (some 0) with
  accessFlags := 49
  interfaces := #[]
  cf := some (fileOf pool1 32 #[] #[{ accessFlags := 1, nameIndex := 5, descriptorIndex := 6, attributes := #[] }, { accessFlags := 9, nameIndex := 81, descriptorIndex := 82, attributes := #[] }, { accessFlags := 10, nameIndex := 65, descriptorIndex := 66, attributes := #[] }, { accessFlags := 10, nameIndex := 55, descriptorIndex := 56, attributes := #[] }, { accessFlags := 10, nameIndex := 59, descriptorIndex := 56, attributes := #[] }, { accessFlags := 10, nameIndex := 71, descriptorIndex := 72, attributes := #[] }, { accessFlags := 10, nameIndex := 75, descriptorIndex := 72, attributes := #[] }, { accessFlags := 10, nameIndex := 39, descriptorIndex := 40, attributes := #[] }, { accessFlags := 10, nameIndex := 35, descriptorIndex := 36, attributes := #[] }, { accessFlags := 10, nameIndex := 43, descriptorIndex := 44, attributes := #[] }, { accessFlags := 10, nameIndex := 47, descriptorIndex := 48, attributes := #[] }] 49 2 #[] #[])
  fields := #[]
  methods := #[k1m0, k1m1, k1m2, k1m3, k1m4, k1m5, k1m6, k1m7, k1m8, k1m9, k1m10]
  instanceTypes := #[]
  staticTypes := #[]
  resolved := Array.replicate 86 none
  statics := none }

def pool2 : Array CpInfo := pool [(1, .class_ 2), (0, u "java/lang/Math"), (1, .class_ 6), (1, u "java/lang/Object"), (0, u "<init>"), (0, u "()V"), (89, .class_ 100), (1, u "java/lang/Math$RandomNumberGeneratorHolder"), (20, u "(JJ)J"), (50, u "negativeZeroFloatBits"), (0, u "J"), (2, u "negativeZeroDoubleBits"), (21, u "max"), (2, u "min"), (43, u "$assertionsDisabled"), (0, u "Z"), (88, u "(II)I"), (2, u "twoToTheDoubleScaleDown"), (0, u "D"), (4, u "twoToTheDoubleScaleUp"), (9, u "E"), (3, u "PI"), (2, u "TAU"), (2, u "DEGREES_TO_RADIANS"), (0, u "RADIANS_TO_DEGREES")] 94

def k2m0 : Method := { name := "<init>", desc := "()V", sig := { parameters := [], returnType := none }, accessFlags := 2, code := none }
def k2c1 : Code := { maxStack := 2, maxLocals := 2, code := jdk_29_method_65_code, exceptionTable := #[], attributes := #[] }
def k2m1 : Method := { name := "max", desc := "(II)I", sig := { parameters := [.int, .int], returnType := some .int }, accessFlags := 9, code := some k2c1 }
def k2c2 : Code := { maxStack := 4, maxLocals := 4, code := jdk_29_method_66_code, exceptionTable := #[], attributes := #[] }
def k2m2 : Method := { name := "max", desc := "(JJ)J", sig := { parameters := [.long, .long], returnType := some .long }, accessFlags := 9, code := some k2c2 }
def k2c3 : Code := { maxStack := 2, maxLocals := 2, code := jdk_29_method_69_code, exceptionTable := #[], attributes := #[] }
def k2m3 : Method := { name := "min", desc := "(II)I", sig := { parameters := [.int, .int], returnType := some .int }, accessFlags := 9, code := some k2c3 }
def k2c4 : Code := { maxStack := 4, maxLocals := 4, code := jdk_29_method_70_code, exceptionTable := #[], attributes := #[] }
def k2m4 : Method := { name := "min", desc := "(JJ)J", sig := { parameters := [.long, .long], returnType := some .long }, accessFlags := 9, code := some k2c4 }
/-- java/lang/Math -/
def k2 : Class := { plain "java/lang/Math" (some 0) with
  accessFlags := 49
  interfaces := #[]
  cf := some (fileOf pool2 1 #[.nestMembers #[98]] #[{ accessFlags := 2, nameIndex := 7, descriptorIndex := 8, attributes := #[] }, { accessFlags := 9, nameIndex := 198, descriptorIndex := 335, attributes := #[] }, { accessFlags := 9, nameIndex := 198, descriptorIndex := 121, attributes := #[] }, { accessFlags := 9, nameIndex := 201, descriptorIndex := 335, attributes := #[] }, { accessFlags := 9, nameIndex := 201, descriptorIndex := 121, attributes := #[] }] 49 4 #[] #[{ accessFlags := 25, nameIndex := 354, descriptorIndex := 339, attributes := #[] }, { accessFlags := 25, nameIndex := 358, descriptorIndex := 339, attributes := #[] }, { accessFlags := 25, nameIndex := 361, descriptorIndex := 339, attributes := #[] }, { accessFlags := 26, nameIndex := 364, descriptorIndex := 339, attributes := #[] }, { accessFlags := 26, nameIndex := 365, descriptorIndex := 339, attributes := #[] }, { accessFlags := 26, nameIndex := 172, descriptorIndex := 173, attributes := #[] }, { accessFlags := 26, nameIndex := 176, descriptorIndex := 173, attributes := #[] }, { accessFlags := 8, nameIndex := 344, descriptorIndex := 339, attributes := #[] }, { accessFlags := 8, nameIndex := 338, descriptorIndex := 339, attributes := #[] }, { accessFlags := 4120, nameIndex := 245, descriptorIndex := 246, attributes := #[] }])
  fields := #[{ name := "E", type := .double, accessFlags := 25, slot := 0, constantValue := 0 }, { name := "PI", type := .double, accessFlags := 25, slot := 1, constantValue := 0 }, { name := "TAU", type := .double, accessFlags := 25, slot := 2, constantValue := 0 }, { name := "DEGREES_TO_RADIANS", type := .double, accessFlags := 26, slot := 3, constantValue := 0 }, { name := "RADIANS_TO_DEGREES", type := .double, accessFlags := 26, slot := 4, constantValue := 0 }, { name := "negativeZeroFloatBits", type := .long, accessFlags := 26, slot := 5, constantValue := 0 }, { name := "negativeZeroDoubleBits", type := .long, accessFlags := 26, slot := 6, constantValue := 0 }, { name := "twoToTheDoubleScaleUp", type := .double, accessFlags := 8, slot := 7, constantValue := 0 }, { name := "twoToTheDoubleScaleDown", type := .double, accessFlags := 8, slot := 8, constantValue := 0 }, { name := "$assertionsDisabled", type := .boolean, accessFlags := 4120, slot := 9, constantValue := 0 }]
  methods := #[k2m0, k2m1, k2m2, k2m3, k2m4]
  instanceTypes := #[]
  staticTypes := #[.double, .double, .double, .double, .double, .long, .long, .double, .double, .boolean]
  resolved := Array.replicate 460 none
  statics := none }

def pool3 : Array CpInfo := pool [(3, .methodref 4 5), (0, .class_ 6), (0, .nameAndType 7 8), (0, u "java/lang/Object"), (0, u "<init>"), (0, u "()V"), (0, .class_ 10), (0, u "com/example/gapwright/gapwright/profile/FreeRuns"), (0, .methodref 9 12), (0, .nameAndType 7 13), (0, u "(Lcom/example/gapwright/gapwright/profile/CpuProfile;)V"), (0, .fieldref 15 16), (0, .class_ 17), (0, .nameAndType 18 19), (0, u "com/example/gapwright/gapwright/profile/CpuProfile"), (0, u "runs"), (0, u "Lcom/example/gapwright/gapwright/profile/FreeRuns;"), (0, .fieldref 15 21), (0, .nameAndType 22 23), (0, u "firstWith"), (0, u "[J"), (0, .fieldref 15 25), (0, .nameAndType 26 23), (0, u "NO_INSTANTS"), (0, .fieldref 15 28), (0, .nameAndType 29 23), (0, u "openedAt"), (0, .fieldref 15 31), (0, .nameAndType 32 23), (0, u "recent"), (0, .fieldref 15 34), (0, .nameAndType 35 36), (0, u "UNWATCHED"), (0, u "Lcom/example/gapwright/gapwright/profile/CpuProfile$Watcher;"), (0, .fieldref 15 38), (0, .nameAndType 39 36), (0, u "watcher"), (0, .fieldref 15 41), (0, .nameAndType 42 43), (0, u "cpus"), (0, u "I"), (0, .long 9223372036854775808), (1, .fieldref 15 47), (0, .nameAndType 48 23), (0, u "times"), (0, .fieldref 15 50), (0, .nameAndType 51 52), (0, u "free"), (0, u "[I"), (0, .fieldref 15 54), (0, .nameAndType 55 43), (0, u "tail"), (0, .fieldref 15 57), (0, .nameAndType 58 43), (0, u "head"), (4, .methodref 15 64), (0, .nameAndType 65 66), (0, u "segmentAt"), (0, u "(J)I"), (12, .class_ 81), (1, u "com/example/gapwright/gapwright/profile/CpuProfile$Runs"), (6, .class_ 90), (1, u "java/lang/Math"), (0, u "max"), (0, .methodref 88 93), (0, .nameAndType 91 94), (0, u "(II)I"), (8, .fieldref 15 104), (0, .nameAndType 105 106), (0, u "firstKnown"), (0, u "Z"), (0, .methodref 88 108), (0, .nameAndType 109 94), (0, u "min"), (3, u "(I)I"), (42, .fieldref 15 157), (0, .nameAndType 158 159), (0, u "changes"), (0, u "J"), (0, .fieldref 15 161), (0, .nameAndType 162 159), (0, u "merged"), (0, .fieldref 15 164), (0, .nameAndType 165 159), (0, u "gaveBack"), (0, .long 8), (1, .fieldref 15 169), (0, .nameAndType 170 43), (0, u "watchedAs"), (0, .interfaceMethodref 172 173), (0, .class_ 174), (0, .nameAndType 175 176), (0, u "com/example/gapwright/gapwright/profile/CpuProfile$Watcher"), (0, u "booked"), (0, u "(I)V"), (0, .methodref 15 178), (0, .nameAndType 179 180), (0, u "add"), (0, u "(JJI)V"), (1, .class_ 183), (0, u "com/example/gapwright/gapwright/profile/CpuProfile$Bookings"), (11, u "release"), (2, u "book"), (9, .class_ 209), (0, u "com/example/gapwright/gapwright/profile/CpuProfile$Sweep"), (15, .methodref 15 226), (0, .nameAndType 227 8), (0, u "countsChanged"), (9, .methodref 15 238), (0, .nameAndType 239 240), (0, u "check"), (0, u "(IJ)V"), (0, .methodref 15 242), (0, .nameAndType 243 113), (0, u "room"), (0, .methodref 245 246), (0, .class_ 247), (0, .nameAndType 248 249), (0, u "java/lang/System"), (0, u "arraycopy"), (0, u "(Ljava/lang/Object;ILjava/lang/Object;II)V"), (7, .methodref 9 258), (0, .nameAndType 259 8), (0, u "moved"), (2, u "NONE"), (20, .methodref 15 284), (0, .nameAndType 285 66), (0, u "split"), (0, .methodref 9 287), (0, .nameAndType 288 289), (0, u "changed"), (0, u "(II)V"), (0, .methodref 15 291), (0, .nameAndType 292 176), (0, u "mergeWithPrevious"), (9, .fieldref 15 303), (0, .nameAndType 304 43), (0, u "lastAt"), (0, .methodref 15 306), (0, .nameAndType 307 308), (0, u "placeAtOrBefore"), (0, u "([JIIIJ)I"), (0, .methodref 9 310), (0, .nameAndType 311 176), (0, u "inserted"), (0, .methodref 9 313), (0, .nameAndType 314 176), (0, u "removed"), (0, .class_ 316), (0, u "com/example/gapwright/gapwright/profile/CpuProfile$1"), (2, u "LOOKS_UNAIDED"), (1, u "FIRST_WITH_LEAST"), (1, u "RECENT"), (1, u "UNCHANGED"), (1, u "NONE_EARLIER"), (1, u "UNKNOWN"), (20, u "changedSince"), (0, u "(JJJ)I")] 37

def k3c0 : Code := { maxStack := 6, maxLocals := 2, code := prog_103_method_1_code, exceptionTable := #[], attributes := #[] }
def k3m0 : Method := { name := "<init>", desc := "(I)V", sig := { parameters := [.int], returnType := none }, accessFlags := 1, code := some k3c0 }
def k3c1 : Code := { maxStack := 5, maxLocals := 11, code := prog_103_method_23_code, exceptionTable := #[], attributes := #[] }
def k3m1 : Method := { name := "changedSince", desc := "(JJJ)I", sig := { parameters := [.long, .long, .long], returnType := some .int }, accessFlags := 0, code := some k3c1 }
def k3c2 : Code := { maxStack := 2, maxLocals := 1, code := prog_103_method_26_code, exceptionTable := #[], attributes := #[] }
def k3m2 : Method := { name := "countsChanged", desc := "()V", sig := { parameters := [], returnType := none }, accessFlags := 2, code := some k3c2 }
def k3c3 : Code := { maxStack := 6, maxLocals := 6, code := prog_103_method_31_code, exceptionTable := #[], attributes := #[] }
def k3m3 : Method := { name := "book", desc := "(JJI)V", sig := { parameters := [.long, .long, .int], returnType := none }, accessFlags := 1, code := some k3c3 }
def k3c4 : Code := { maxStack := 6, maxLocals := 6, code := prog_103_method_32_code, exceptionTable := #[], attributes := #[] }
def k3m4 : Method := { name := "release", desc := "(JJI)V", sig := { parameters := [.long, .long, .int], returnType := none }, accessFlags := 1, code := some k3c4 }
def k3c5 : Code := { maxStack := 6, maxLocals := 6, code := prog_103_method_37_code, exceptionTable := #[], attributes := #[] }
def k3m5 : Method := { name := "room", desc := "(I)I", sig := { parameters := [.int], returnType := some .int }, accessFlags := 2, code := some k3c5 }
def k3c6 : Code := { maxStack := 6, maxLocals := 10, code := prog_103_method_41_code, exceptionTable := #[], attributes := #[] }
def k3m6 : Method := { name := "add", desc := "(JJI)V", sig := { parameters := [.long, .long, .int], returnType := none }, accessFlags := 2, code := some k3c6 }
def k3c7 : Code := { maxStack := 6, maxLocals := 4, code := prog_103_method_42_code, exceptionTable := #[], attributes := #[] }
def k3m7 : Method := { name := "check", desc := "(IJ)V", sig := { parameters := [.int, .long], returnType := none }, accessFlags := 2, code := some k3c7 }
def k3c8 : Code := { maxStack := 7, maxLocals := 4, code := prog_103_method_43_code, exceptionTable := #[], attributes := #[] }
def k3m8 : Method := { name := "segmentAt", desc := "(J)I", sig := { parameters := [.long], returnType := some .int }, accessFlags := 2, code := some k3c8 }
def k3c9 : Code := { maxStack := 4, maxLocals := 9, code := prog_103_method_44_code, exceptionTable := #[], attributes := #[] }
def k3m9 : Method := { name := "placeAtOrBefore", desc := "([JIIIJ)I", sig := { parameters := [(.array .long), .int, .int, .int, .long], returnType := some .int }, accessFlags := 8, code := some k3c9 }
def k3c10 : Code := { maxStack := 6, maxLocals := 4, code := prog_103_method_45_code, exceptionTable := #[], attributes := #[] }
def k3m10 : Method := { name := "split", desc := "(J)I", sig := { parameters := [.long], returnType := some .int }, accessFlags := 2, code := some k3c10 }
def k3c11 : Code := { maxStack := 6, maxLocals := 2, code := prog_103_method_46_code, exceptionTable := #[], attributes := #[] }
def k3m11 : Method := { name := "mergeWithPrevious", desc := "(I)V", sig := { parameters := [.int], returnType := none }, accessFlags := 2, code := some k3c11 }
/-- com/example/gapwright/gapwright/profile/CpuProfile -/
def k3 : Class := { plain "com/example/gapwright/gapwright/profile/CpuProfile" (some 0) with
  accessFlags := 49
  interfaces := #[]
  cf := some (fileOf pool3 15 #[.nestMembers #[208, 182, 172, 79, 315]] #[{ accessFlags := 1, nameIndex := 7, descriptorIndex := 176, attributes := #[] }, { accessFlags := 0, nameIndex := 350, descriptorIndex := 351, attributes := #[] }, { accessFlags := 2, nameIndex := 227, descriptorIndex := 8, attributes := #[] }, { accessFlags := 1, nameIndex := 198, descriptorIndex := 180, attributes := #[] }, { accessFlags := 1, nameIndex := 195, descriptorIndex := 180, attributes := #[] }, { accessFlags := 2, nameIndex := 243, descriptorIndex := 113, attributes := #[] }, { accessFlags := 2, nameIndex := 179, descriptorIndex := 180, attributes := #[] }, { accessFlags := 2, nameIndex := 239, descriptorIndex := 240, attributes := #[] }, { accessFlags := 2, nameIndex := 65, descriptorIndex := 66, attributes := #[] }, { accessFlags := 8, nameIndex := 307, descriptorIndex := 308, attributes := #[] }, { accessFlags := 2, nameIndex := 285, descriptorIndex := 66, attributes := #[] }, { accessFlags := 2, nameIndex := 292, descriptorIndex := 176, attributes := #[] }] 49 4 #[] #[{ accessFlags := 25, nameIndex := 262, descriptorIndex := 159, attributes := #[] }, { accessFlags := 26, nameIndex := 319, descriptorIndex := 43, attributes := #[] }, { accessFlags := 26, nameIndex := 321, descriptorIndex := 43, attributes := #[] }, { accessFlags := 26, nameIndex := 323, descriptorIndex := 43, attributes := #[] }, { accessFlags := 24, nameIndex := 325, descriptorIndex := 43, attributes := #[] }, { accessFlags := 24, nameIndex := 327, descriptorIndex := 43, attributes := #[] }, { accessFlags := 24, nameIndex := 329, descriptorIndex := 43, attributes := #[] }, { accessFlags := 26, nameIndex := 26, descriptorIndex := 23, attributes := #[] }, { accessFlags := 18, nameIndex := 42, descriptorIndex := 43, attributes := #[] }, { accessFlags := 2, nameIndex := 48, descriptorIndex := 23, attributes := #[] }, { accessFlags := 2, nameIndex := 51, descriptorIndex := 52, attributes := #[] }, { accessFlags := 2, nameIndex := 58, descriptorIndex := 43, attributes := #[] }, { accessFlags := 2, nameIndex := 55, descriptorIndex := 43, attributes := #[] }, { accessFlags := 2, nameIndex := 304, descriptorIndex := 43, attributes := #[] }, { accessFlags := 18, nameIndex := 18, descriptorIndex := 19, attributes := #[] }, { accessFlags := 2, nameIndex := 22, descriptorIndex := 23, attributes := #[] }, { accessFlags := 2, nameIndex := 105, descriptorIndex := 106, attributes := #[] }, { accessFlags := 2, nameIndex := 29, descriptorIndex := 23, attributes := #[] }, { accessFlags := 2, nameIndex := 158, descriptorIndex := 159, attributes := #[] }, { accessFlags := 2, nameIndex := 162, descriptorIndex := 159, attributes := #[] }, { accessFlags := 2, nameIndex := 165, descriptorIndex := 159, attributes := #[] }, { accessFlags := 18, nameIndex := 32, descriptorIndex := 23, attributes := #[] }, { accessFlags := 2, nameIndex := 39, descriptorIndex := 36, attributes := #[] }, { accessFlags := 2, nameIndex := 170, descriptorIndex := 43, attributes := #[] }, { accessFlags := 26, nameIndex := 35, descriptorIndex := 36, attributes := #[] }])
  fields := #[{ name := "NONE", type := .long, accessFlags := 25, slot := 0, constantValue := 0 }, { name := "LOOKS_UNAIDED", type := .int, accessFlags := 26, slot := 1, constantValue := 0 }, { name := "FIRST_WITH_LEAST", type := .int, accessFlags := 26, slot := 2, constantValue := 0 }, { name := "RECENT", type := .int, accessFlags := 26, slot := 3, constantValue := 0 }, { name := "UNCHANGED", type := .int, accessFlags := 24, slot := 4, constantValue := 0 }, { name := "NONE_EARLIER", type := .int, accessFlags := 24, slot := 5, constantValue := 0 }, { name := "UNKNOWN", type := .int, accessFlags := 24, slot := 6, constantValue := 0 }, { name := "NO_INSTANTS", type := (.array .long), accessFlags := 26, slot := 7, constantValue := 0 }, { name := "cpus", type := .int, accessFlags := 18, slot := 0, constantValue := 0 }, { name := "times", type := (.array .long), accessFlags := 2, slot := 1, constantValue := 0 }, { name := "free", type := (.array .int), accessFlags := 2, slot := 2, constantValue := 0 }, { name := "head", type := .int, accessFlags := 2, slot := 3, constantValue := 0 }, { name := "tail", type := .int, accessFlags := 2, slot := 4, constantValue := 0 }, { name := "lastAt", type := .int, accessFlags := 2, slot := 5, constantValue := 0 }, { name := "runs", type := (.object "com/example/gapwright/gapwright/profile/FreeRuns"), accessFlags := 18, slot := 6, constantValue := 0 }, { name := "firstWith", type := (.array .long), accessFlags := 2, slot := 7, constantValue := 0 }, { name := "firstKnown", type := .boolean, accessFlags := 2, slot := 8, constantValue := 0 }, { name := "openedAt", type := (.array .long), accessFlags := 2, slot := 9, constantValue := 0 }, { name := "changes", type := .long, accessFlags := 2, slot := 10, constantValue := 0 }, { name := "merged", type := .long, accessFlags := 2, slot := 11, constantValue := 0 }, { name := "gaveBack", type := .long, accessFlags := 2, slot := 12, constantValue := 0 }, { name := "recent", type := (.array .long), accessFlags := 18, slot := 13, constantValue := 0 }, { name := "watcher", type := (.object "com/example/gapwright/gapwright/profile/CpuProfile$Watcher"), accessFlags := 2, slot := 14, constantValue := 0 }, { name := "watchedAs", type := .int, accessFlags := 2, slot := 15, constantValue := 0 }, { name := "UNWATCHED", type := (.object "com/example/gapwright/gapwright/profile/CpuProfile$Watcher"), accessFlags := 26, slot := 8, constantValue := 0 }]
  methods := #[k3m0, k3m1, k3m2, k3m3, k3m4, k3m5, k3m6, k3m7, k3m8, k3m9, k3m10, k3m11]
  instanceTypes := #[.int, (.array .long), (.array .int), .int, .int, .int, (.object "com/example/gapwright/gapwright/profile/FreeRuns"), (.array .long), .boolean, (.array .long), .long, .long, .long, (.array .long), (.object "com/example/gapwright/gapwright/profile/CpuProfile$Watcher"), .int]
  staticTypes := #[.long, .int, .int, .int, .int, .int, .int, (.array .long), (.object "com/example/gapwright/gapwright/profile/CpuProfile$Watcher")]
  resolved := Array.replicate 389 none
  statics := some 0 }

def pool4 : Array CpInfo := pool [(1, .class_ 2), (0, u "com/example/gapwright/gapwright/profile/FreeRuns"), (2, .methodref 6 7), (0, .class_ 8), (0, .nameAndType 9 10), (0, u "java/lang/Object"), (0, u "<init>"), (0, u "()V"), (0, .fieldref 1 12), (0, .nameAndType 13 14), (0, u "profile"), (0, u "Lcom/example/gapwright/gapwright/profile/CpuProfile;"), (0, .fieldref 1 16), (0, .nameAndType 17 18), (0, u "nodes"), (0, u "[[J"), (4, .fieldref 1 24), (0, .nameAndType 25 26), (0, u "leaves"), (0, u "I"), (3, u "(I)V"), (0, .fieldref 1 32), (0, .nameAndType 33 26), (0, u "blocks"), (0, .fieldref 1 35), (0, .nameAndType 36 37), (0, u "bounds"), (0, u "[I"), (11, u "moved"), (10, u "pending"), (0, u "[J"), (13, u "changed"), (0, u "[Z"), (2, u "EMPTY"), (19, u "times"), (9, u "free"), (2, u "duration"), (0, u "J"), (2, u "need"), (2, u "latestEnd"), (2, u "carry"), (12, u "fromBlock"), (43, u "ceiling"), (35, u "block"), (2, u "levels"), (29, u "BLOCK"), (2, u "FEWEST"), (1, u "NO_RUN"), (0, u "FOR_EVER"), (0, u "SIZE"), (1, u "START"), (1, u "MARKS"), (1, u "COUNT"), (1, u "FIRST_END"), (0, u "LAST_START"), (0, u "LONGEST"), (0, u "FIGURES"), (0, u "(Lcom/example/gapwright/gapwright/profile/CpuProfile;)V"), (2, u "(II)V"), (1, u "inserted"), (0, u "removed")] 12

def k4c0 : Code := { maxStack := 2, maxLocals := 2, code := prog_119_method_1_code, exceptionTable := #[], attributes := #[] }
def k4m0 : Method := { name := "<init>", desc := "(Lcom/example/gapwright/gapwright/profile/CpuProfile;)V", sig := { parameters := [(.object "com/example/gapwright/gapwright/profile/CpuProfile")], returnType := none }, accessFlags := 0, code := some k4c0 }
def k4c1 : Code := { maxStack := 4, maxLocals := 4, code := prog_119_method_2_code, exceptionTable := #[], attributes := #[] }
def k4m1 : Method := { name := "changed", desc := "(II)V", sig := { parameters := [.int, .int], returnType := none }, accessFlags := 0, code := some k4c1 }
def k4c2 : Code := { maxStack := 4, maxLocals := 4, code := prog_119_method_3_code, exceptionTable := #[], attributes := #[] }
def k4m2 : Method := { name := "inserted", desc := "(I)V", sig := { parameters := [.int], returnType := none }, accessFlags := 0, code := some k4c2 }
def k4c3 : Code := { maxStack := 4, maxLocals := 4, code := prog_119_method_4_code, exceptionTable := #[], attributes := #[] }
def k4m3 : Method := { name := "removed", desc := "(I)V", sig := { parameters := [.int], returnType := none }, accessFlags := 0, code := some k4c3 }
def k4c4 : Code := { maxStack := 2, maxLocals := 1, code := prog_119_method_5_code, exceptionTable := #[], attributes := #[] }
def k4m4 : Method := { name := "moved", desc := "()V", sig := { parameters := [], returnType := none }, accessFlags := 0, code := some k4c4 }
/-- com/example/gapwright/gapwright/profile/FreeRuns -/
def k4 : Class := { plain "com/example/gapwright/gapwright/profile/FreeRuns" (some 0) with
  accessFlags := 49
  interfaces := #[]
  cf := some (fileOf pool4 1 #[] #[{ accessFlags := 0, nameIndex := 9, descriptorIndex := 267, attributes := #[] }, { accessFlags := 0, nameIndex := 75, descriptorIndex := 270, attributes := #[] }, { accessFlags := 0, nameIndex := 272, descriptorIndex := 30, attributes := #[] }, { accessFlags := 0, nameIndex := 273, descriptorIndex := 30, attributes := #[] }, { accessFlags := 0, nameIndex := 49, descriptorIndex := 10, attributes := #[] }] 49 6 #[] #[{ accessFlags := 26, nameIndex := 248, descriptorIndex := 26, attributes := #[] }, { accessFlags := 25, nameIndex := 251, descriptorIndex := 26, attributes := #[] }, { accessFlags := 26, nameIndex := 253, descriptorIndex := 113, attributes := #[] }, { accessFlags := 24, nameIndex := 254, descriptorIndex := 113, attributes := #[] }, { accessFlags := 26, nameIndex := 255, descriptorIndex := 26, attributes := #[] }, { accessFlags := 26, nameIndex := 257, descriptorIndex := 26, attributes := #[] }, { accessFlags := 26, nameIndex := 259, descriptorIndex := 26, attributes := #[] }, { accessFlags := 26, nameIndex := 261, descriptorIndex := 26, attributes := #[] }, { accessFlags := 26, nameIndex := 263, descriptorIndex := 26, attributes := #[] }, { accessFlags := 26, nameIndex := 264, descriptorIndex := 26, attributes := #[] }, { accessFlags := 26, nameIndex := 265, descriptorIndex := 26, attributes := #[] }, { accessFlags := 26, nameIndex := 266, descriptorIndex := 26, attributes := #[] }, { accessFlags := 26, nameIndex := 79, descriptorIndex := 61, attributes := #[] }, { accessFlags := 18, nameIndex := 13, descriptorIndex := 14, attributes := #[] }, { accessFlags := 2, nameIndex := 33, descriptorIndex := 26, attributes := #[] }, { accessFlags := 2, nameIndex := 36, descriptorIndex := 37, attributes := #[] }, { accessFlags := 2, nameIndex := 179, descriptorIndex := 26, attributes := #[] }, { accessFlags := 2, nameIndex := 25, descriptorIndex := 26, attributes := #[] }, { accessFlags := 2, nameIndex := 17, descriptorIndex := 18, attributes := #[] }, { accessFlags := 2, nameIndex := 75, descriptorIndex := 76, attributes := #[] }, { accessFlags := 2, nameIndex := 60, descriptorIndex := 61, attributes := #[] }, { accessFlags := 2, nameIndex := 215, descriptorIndex := 37, attributes := #[] }, { accessFlags := 2, nameIndex := 218, descriptorIndex := 37, attributes := #[] }, { accessFlags := 2, nameIndex := 99, descriptorIndex := 61, attributes := #[] }, { accessFlags := 2, nameIndex := 109, descriptorIndex := 37, attributes := #[] }, { accessFlags := 2, nameIndex := 112, descriptorIndex := 113, attributes := #[] }, { accessFlags := 2, nameIndex := 116, descriptorIndex := 26, attributes := #[] }, { accessFlags := 2, nameIndex := 119, descriptorIndex := 113, attributes := #[] }, { accessFlags := 2, nameIndex := 122, descriptorIndex := 113, attributes := #[] }, { accessFlags := 2, nameIndex := 135, descriptorIndex := 26, attributes := #[] }])
  fields := #[{ name := "BLOCK", type := .int, accessFlags := 26, slot := 0, constantValue := 0 }, { name := "FEWEST", type := .int, accessFlags := 25, slot := 1, constantValue := 0 }, { name := "NO_RUN", type := .long, accessFlags := 26, slot := 2, constantValue := 0 }, { name := "FOR_EVER", type := .long, accessFlags := 24, slot := 3, constantValue := 0 }, { name := "SIZE", type := .int, accessFlags := 26, slot := 4, constantValue := 0 }, { name := "START", type := .int, accessFlags := 26, slot := 5, constantValue := 0 }, { name := "MARKS", type := .int, accessFlags := 26, slot := 6, constantValue := 0 }, { name := "COUNT", type := .int, accessFlags := 26, slot := 7, constantValue := 0 }, { name := "FIRST_END", type := .int, accessFlags := 26, slot := 8, constantValue := 0 }, { name := "LAST_START", type := .int, accessFlags := 26, slot := 9, constantValue := 0 }, { name := "LONGEST", type := .int, accessFlags := 26, slot := 10, constantValue := 0 }, { name := "FIGURES", type := .int, accessFlags := 26, slot := 11, constantValue := 0 }, { name := "EMPTY", type := (.array .long), accessFlags := 26, slot := 12, constantValue := 0 }, { name := "profile", type := (.object "com/example/gapwright/gapwright/profile/CpuProfile"), accessFlags := 18, slot := 0, constantValue := 0 }, { name := "blocks", type := .int, accessFlags := 2, slot := 1, constantValue := 0 }, { name := "bounds", type := (.array .int), accessFlags := 2, slot := 2, constantValue := 0 }, { name := "ceiling", type := .int, accessFlags := 2, slot := 3, constantValue := 0 }, { name := "leaves", type := .int, accessFlags := 2, slot := 4, constantValue := 0 }, { name := "nodes", type := (.array (.array .long)), accessFlags := 2, slot := 5, constantValue := 0 }, { name := "changed", type := (.array .boolean), accessFlags := 2, slot := 6, constantValue := 0 }, { name := "pending", type := (.array .long), accessFlags := 2, slot := 7, constantValue := 0 }, { name := "block", type := (.array .int), accessFlags := 2, slot := 8, constantValue := 0 }, { name := "levels", type := (.array .int), accessFlags := 2, slot := 9, constantValue := 0 }, { name := "times", type := (.array .long), accessFlags := 2, slot := 10, constantValue := 0 }, { name := "free", type := (.array .int), accessFlags := 2, slot := 11, constantValue := 0 }, { name := "duration", type := .long, accessFlags := 2, slot := 12, constantValue := 0 }, { name := "need", type := .int, accessFlags := 2, slot := 13, constantValue := 0 }, { name := "latestEnd", type := .long, accessFlags := 2, slot := 14, constantValue := 0 }, { name := "carry", type := .long, accessFlags := 2, slot := 15, constantValue := 0 }, { name := "fromBlock", type := .int, accessFlags := 2, slot := 16, constantValue := 0 }]
  methods := #[k4m0, k4m1, k4m2, k4m3, k4m4]
  instanceTypes := #[(.object "com/example/gapwright/gapwright/profile/CpuProfile"), .int, (.array .int), .int, .int, (.array (.array .long)), (.array .boolean), (.array .long), (.array .int), (.array .int), (.array .long), (.array .int), .long, .int, .long, .long, .int]
  staticTypes := #[.int, .int, .long, .long, .int, .int, .int, .int, .int, .int, .int, .int, (.array .long)]
  resolved := Array.replicate 286 none
  statics := none }

def pool5 : Array CpInfo := pool [(1, .class_ 2), (0, u "com/example/gapwright/gapwright/profile/CpuProfile$Watcher"), (0, .class_ 4), (0, u "java/lang/Object"), (0, u "booked"), (0, u "(I)V"), (4, .class_ 12), (0, u "com/example/gapwright/gapwright/profile/CpuProfile")] 2

def k5m0 : Method := { name := "booked", desc := "(I)V", sig := { parameters := [.int], returnType := none }, accessFlags := 1025, code := none }
/-- com/example/gapwright/gapwright/profile/CpuProfile$Watcher -/
def k5 : Class := { plain "com/example/gapwright/gapwright/profile/CpuProfile$Watcher" (some 0) with
  accessFlags := 1536
  interfaces := #[]
  cf := some (fileOf pool5 1 #[.nestHost 11] #[{ accessFlags := 1025, nameIndex := 5, descriptorIndex := 6, attributes := #[] }] 1536 3 #[] #[])
  fields := #[]
  methods := #[k5m0]
  instanceTypes := #[]
  staticTypes := #[]
  resolved := Array.replicate 15 none
  statics := none }

def pool6 : Array CpInfo := pool [(2, .class_ 4), (1, u "java/lang/Object"), (0, u "<init>"), (0, u "()V"), (0, .class_ 8), (0, u "com/example/gapwright/gapwright/profile/CpuProfile$1"), (0, .class_ 10), (0, u "com/example/gapwright/gapwright/profile/CpuProfile$Watcher"), (2, u "booked"), (0, u "(I)V"), (4, .class_ 20), (0, u "com/example/gapwright/gapwright/profile/CpuProfile")] 3

def k6m0 : Method := { name := "<init>", desc := "()V", sig := { parameters := [], returnType := none }, accessFlags := 0, code := none }
def k6c1 : Code := { maxStack := 0, maxLocals := 2, code := prog_104_method_2_code, exceptionTable := #[], attributes := #[] }
def k6m1 : Method := { name := "booked", desc := "(I)V", sig := { parameters := [.int], returnType := none }, accessFlags := 1, code := some k6c1 }
/-- com/example/gapwright/gapwright/profile/CpuProfile$1 -/
def k6 : Class := { plain "com/example/gapwright/gapwright/profile/CpuProfile$1" (some 0) with
  accessFlags := 32
  interfaces := #[5]
  cf := some (fileOf pool6 7 #[.nestHost 19] #[{ accessFlags := 0, nameIndex := 5, descriptorIndex := 6, attributes := #[] }, { accessFlags := 1, nameIndex := 13, descriptorIndex := 14, attributes := #[] }] 32 2 #[9] #[])
  fields := #[]
  methods := #[k6m0, k6m1]
  instanceTypes := #[]
  staticTypes := #[]
  resolved := Array.replicate 24 none
  statics := none }

def pool7 : Array CpInfo := pool [(2, .class_ 4), (1, u "java/lang/Object"), (0, u "<init>"), (0, u "()V"), (1, .class_ 10), (1, u "java/lang/System"), (0, u "allowSecurityManager"), (0, u "I"), (16, u "cons"), (0, u "Ljava/io/Console;"), (77, .class_ 110), (1, u "java/lang/System$CallersHolder"), (43, u "initialErrStream"), (0, u "Ljava/io/PrintStream;"), (19, u "security"), (0, u "Ljava/lang/SecurityManager;"), (31, .class_ 209), (0, u "java/lang/System$1"), (7, u "props"), (0, u "Ljava/util/Properties;"), (2, u "lineSeparator"), (0, u "Ljava/lang/String;"), (96, .class_ 321), (1, u "java/lang/System$LoggerFinder"), (5, .class_ 328), (0, u "java/lang/System$Logger"), (67, u "err"), (2, u "out"), (91, u "notSupportedJnuEncoding"), (15, u "in"), (17, u "initialIn"), (0, u "Ljava/io/InputStream;"), (35, u "bootLayer"), (0, u "Ljava/lang/ModuleLayer;"), (99, .class_ 664), (0, u "java/lang/System$2"), (9, u "NEVER"), (2, u "MAYBE"), (49, u "arraycopy"), (0, u "(Ljava/lang/Object;ILjava/lang/Object;II)V"), (72, .class_ 802), (0, u "java/lang/System$Logger$Level")] 31

def k7m0 : Method := { name := "<init>", desc := "()V", sig := { parameters := [], returnType := none }, accessFlags := 2, code := none }
def k7m1 : Method := { name := "arraycopy", desc := "(Ljava/lang/Object;ILjava/lang/Object;II)V", sig := { parameters := [(.object "java/lang/Object"), .int, (.object "java/lang/Object"), .int, .int], returnType := none }, accessFlags := 265, code := none }
/-- java/lang/System -/
def k7 : Class := { plain "java/lang/System" (some 0) with
  accessFlags := 49
  interfaces := #[]
  cf := some (fileOf pool7 8 #[.nestMembers #[319, 327, 801, 108, 663, 208]] #[{ accessFlags := 2, nameIndex := 5, descriptorIndex := 6, attributes := #[] }, { accessFlags := 265, nameIndex := 727, descriptorIndex := 728, attributes := #[] }] 49 2 #[] #[{ accessFlags := 25, nameIndex := 507, descriptorIndex := 526, attributes := #[] }, { accessFlags := 25, nameIndex := 399, descriptorIndex := 155, attributes := #[] }, { accessFlags := 25, nameIndex := 396, descriptorIndex := 155, attributes := #[] }, { accessFlags := 10, nameIndex := 525, descriptorIndex := 526, attributes := #[] }, { accessFlags := 26, nameIndex := 674, descriptorIndex := 12, attributes := #[] }, { accessFlags := 26, nameIndex := 677, descriptorIndex := 12, attributes := #[] }, { accessFlags := 10, nameIndex := 11, descriptorIndex := 12, attributes := #[] }, { accessFlags := 74, nameIndex := 175, descriptorIndex := 176, attributes := #[] }, { accessFlags := 10, nameIndex := 491, descriptorIndex := 222, attributes := #[] }, { accessFlags := 74, nameIndex := 29, descriptorIndex := 30, attributes := #[] }, { accessFlags := 74, nameIndex := 154, descriptorIndex := 155, attributes := #[] }, { accessFlags := 10, nameIndex := 217, descriptorIndex := 218, attributes := #[] }, { accessFlags := 10, nameIndex := 221, descriptorIndex := 222, attributes := #[] }, { accessFlags := 8, nameIndex := 562, descriptorIndex := 563, attributes := #[] }])
  fields := #[{ name := "in", type := (.object "java/io/InputStream"), accessFlags := 25, slot := 0, constantValue := 0 }, { name := "out", type := (.object "java/io/PrintStream"), accessFlags := 25, slot := 1, constantValue := 0 }, { name := "err", type := (.object "java/io/PrintStream"), accessFlags := 25, slot := 2, constantValue := 0 }, { name := "initialIn", type := (.object "java/io/InputStream"), accessFlags := 10, slot := 3, constantValue := 0 }, { name := "NEVER", type := .int, accessFlags := 26, slot := 4, constantValue := 0 }, { name := "MAYBE", type := .int, accessFlags := 26, slot := 5, constantValue := 0 }, { name := "allowSecurityManager", type := .int, accessFlags := 10, slot := 6, constantValue := 0 }, { name := "security", type := (.object "java/lang/SecurityManager"), accessFlags := 74, slot := 7, constantValue := 0 }, { name := "notSupportedJnuEncoding", type := (.object "java/lang/String"), accessFlags := 10, slot := 8, constantValue := 0 }, { name := "cons", type := (.object "java/io/Console"), accessFlags := 74, slot := 9, constantValue := 0 }, { name := "initialErrStream", type := (.object "java/io/PrintStream"), accessFlags := 74, slot := 10, constantValue := 0 }, { name := "props", type := (.object "java/util/Properties"), accessFlags := 10, slot := 11, constantValue := 0 }, { name := "lineSeparator", type := (.object "java/lang/String"), accessFlags := 10, slot := 12, constantValue := 0 }, { name := "bootLayer", type := (.object "java/lang/ModuleLayer"), accessFlags := 8, slot := 13, constantValue := 0 }]
  methods := #[k7m0, k7m1]
  instanceTypes := #[]
  staticTypes := #[(.object "java/io/InputStream"), (.object "java/io/PrintStream"), (.object "java/io/PrintStream"), (.object "java/io/InputStream"), .int, .int, .int, (.object "java/lang/SecurityManager"), (.object "java/lang/String"), (.object "java/io/Console"), (.object "java/io/PrintStream"), (.object "java/util/Properties"), (.object "java/lang/String"), (.object "java/lang/ModuleLayer")]
  resolved := Array.replicate 834 none
  statics := none }

def pool8 : Array CpInfo := pool [(1, u "java/lang/Cloneable"), (0, .class_ 1), (0, u "java/lang/Object"), (0, .class_ 3)] 3

/-- java/lang/Cloneable -/
def k8 : Class := { plain "java/lang/Cloneable" (some 0) with
  accessFlags := 1537
  interfaces := #[]
  cf := some (fileOf pool8 2 #[] #[] 1537 4 #[] #[])
  fields := #[]
  methods := #[]
  instanceTypes := #[]
  staticTypes := #[]
  resolved := Array.replicate 8 none
  statics := none }

def pool9 : Array CpInfo := pool [(1, u "java/io/Serializable"), (0, .class_ 1), (0, u "java/lang/Object"), (0, .class_ 3)] 3

/-- java/io/Serializable -/
def k9 : Class := { plain "java/io/Serializable" (some 0) with
  accessFlags := 1537
  interfaces := #[]
  cf := some (fileOf pool9 2 #[] #[] 1537 4 #[] #[])
  fields := #[]
  methods := #[]
  instanceTypes := #[]
  staticTypes := #[]
  resolved := Array.replicate 8 none
  statics := none }

/-- the primitive byte -/
def k10 : Class := { plain "byte" none with kind := .primitive 'B', accessFlags := 0x411 }
/-- [B -/
def k11 : Class := { plain "[B" (some 0) with kind := .array 10 .byte, interfaces := #[8, 9], accessFlags := 1041 }

/-- the primitive int -/
def k12 : Class := { plain "int" none with kind := .primitive 'I', accessFlags := 0x411 }
/-- [I -/
def k13 : Class := { plain "[I" (some 0) with kind := .array 12 .int, interfaces := #[8, 9], accessFlags := 1041 }

/-- the primitive long -/
def k14 : Class := { plain "long" none with kind := .primitive 'J', accessFlags := 0x411 }
/-- [J -/
def k15 : Class := { plain "[J" (some 0) with kind := .array 14 .long, interfaces := #[8, 9], accessFlags := 1041 }

def heap : Heap := #[{ cls := 3, slots := #[.long 0, .int 0, .int 0, .int 0, .int 0, .int 0, .int 0, .ref 1, .ref 2], vm := .statics 3 },
  { cls := 15, slots := #[], vm := .none },
  { cls := 6, slots := #[], vm := .none }]
def classes : Array Class := #[k0, k1, k2, k3, k4, k5, k6, k7, k8, k9, k10, k11, k12, k13, k14, k15]
def interned : List (Array UInt16 × Addr) := []
def slotsUsed : Nat := 9
def theMethod : MethodId := ⟨1, 1⟩
def args0 : Array Value := #[.long 3, .long 9, .long 81985529216486895, .int 37]
def aboutOver (below : List Frame) : State where
  vm := { classes := classes, interned := interned.toArray }
  heap := heap
  slotsUsed := slotsUsed
  threads := #[{ frames := .invoking theMethod args0 :: below }]
def below0 : List Frame := [.native { method := ⟨0, 0⟩, args := #[] }]
def about1 : State := aboutOver below0
def p0 : Program := .bare "" "" ""
def e0 : Env := launch0.env 0 0 0
theorem w_frames : about1.frames = Frame.invoking theMethod args0 :: below0 := rfl
set_option maxRecDepth 65536 in
theorem w_args : argsFit about1.vm theMethod args0 = true := by decide +kernel
set_option maxRecDepth 65536 in
theorem w_heap : heapFits about1 = true := by decide +kernel
set_option maxRecDepth 65536 in
theorem w_runnable : about1.curStatus? = some .runnable := by decide +kernel
set_option maxRecDepth 65536 in
theorem w_alone : about1.alone = true := by decide +kernel
set_option maxRecDepth 65536 in
theorem w_named : about1.methodNamed? x = some theMethod := by decide +kernel
set_option maxRecDepth 65536 in
theorem w_hears : about1.hears theMethod below0 = true := by decide +kernel
set_option maxRecDepth 65536 in
theorem w_ripe : about1.ripe theMethod args0 below0 = true := by decide +kernel
theorem w_running : about1.status = .running := rfl
set_option maxRecDepth 65536 in
theorem w_room : about1.hasRoom e0.platform room_1 = true :=
  launch0.hasRoom_least _ room_1 (by decide +kernel) (by decide +kernel) (by decide +kernel) (by decide +kernel) (by decide +kernel) (by decide +kernel)
theorem allAtoms_all (ts : List Jvm.Cond) (a : Array Jvm.Value) (st : Jvm.State) : (allAtoms ts).before a st = ts.all (fun c => c.before a st) := by
  induction ts with
  | nil => rfl
  | cons c t ih =>
    show (Jvm.Cond.and c (allAtoms t)).before a st = _
    rw [Jvm.Cond.before_and, ih, List.all_cons]
def words1 : List Jvm.Cond := Jvm.Cond.code x code maxLocals ret :: tables_1
/-- a 'code' word, met by the world's own term for the bytes: nothing is compared byte by byte -/
theorem code_word {y : MethodName} {bytes : ByteArray} {mx : Nat} {rt : Option FieldType} {a : Array Value} {s : State} {m : MethodId} {meth : Method} {c : Code} (h1 : s.methodNamed? y = some m) (h2 : s.vm.method? m = some meth) (h3 : meth.code = some c) (h4 : c.code = bytes)
    (h5 : (c.maxLocals == mx && c.exceptionTable.isEmpty && decide (c.maxStack ≤ mostOperands) && decide (meth.sig.returnType = rt) && !meth.locks && decide (parseMethodDescriptor y.desc = some meth.sig)) = true) : (Jvm.Cond.code y bytes mx rt).before a s = true := by
  simp only [Bool.and_eq_true, beq_iff_eq, Bool.not_eq_true', decide_eq_true_eq] at h5
  obtain ⟨⟨⟨⟨⟨g1, g2⟩, g3⟩, g4⟩, g5⟩, g6⟩ := h5
  simp [Cond.before, Cond.holds, Cond.value, h1, h2, h3, h4, g1, g2, g3, g4, g5, g6]
def isCode : Jvm.Cond → Bool
  | .code _ _ _ _ => true
  | _ => false
theorem all_split {L : List Jvm.Cond} {P : Jvm.Cond → Bool} (h1 : L.all (fun c => isCode c || P c) = true) (h2 : ∀ c ∈ L.filter isCode, P c = true) : L.all P = true := by
  refine List.all_eq_true.mpr fun c hc => ?_
  have h := List.all_eq_true.mp h1 c hc
  rcases Bool.eq_false_or_eq_true (isCode c) with hi | hi
  · exact h2 c (List.mem_filter.mpr ⟨hc, hi⟩)
  · simpa [hi] using h
set_option maxRecDepth 65536 in
theorem w_c0 : (Jvm.Cond.code x code maxLocals ret).before args0 about1 = true := code_word (m := ⟨1, 1⟩) (meth := k1m1) (c := k1c1) (by decide +kernel) rfl rfl rfl (by decide +kernel)
set_option maxRecDepth 65536 in
theorem w_c1 : (Jvm.Cond.code ({ cls := "java/lang/Math", name := "min", desc := "(JJ)J" } : Jvm.MethodName) jdk_29_method_70_code (4 : Nat) (Option.some Jvm.ClassFile.FieldType.long)).before args0 about1 = true := code_word (m := ⟨2, 4⟩) (meth := k2m4) (c := k2c4) (by decide +kernel) rfl rfl rfl (by decide +kernel)
set_option maxRecDepth 65536 in
theorem w_c2 : (Jvm.Cond.code ({ cls := "java/lang/Math", name := "max", desc := "(JJ)J" } : Jvm.MethodName) jdk_29_method_66_code (4 : Nat) (Option.some Jvm.ClassFile.FieldType.long)).before args0 about1 = true := code_word (m := ⟨2, 2⟩) (meth := k2m2) (c := k2c2) (by decide +kernel) rfl rfl rfl (by decide +kernel)
set_option maxRecDepth 65536 in
theorem w_c3 : (Jvm.Cond.code ({ cls := "com/example/gapwright/gapwright/profile/CpuProfile", name := "<init>", desc := "(I)V" } : Jvm.MethodName) prog_103_method_1_code (2 : Nat) (Option.none : Option Jvm.ClassFile.FieldType)).before args0 about1 = true := code_word (m := ⟨3, 0⟩) (meth := k3m0) (c := k3c0) (by decide +kernel) rfl rfl rfl (by decide +kernel)
set_option maxRecDepth 65536 in
theorem w_c4 : (Jvm.Cond.code ({ cls := "java/lang/Object", name := "<init>", desc := "()V" } : Jvm.MethodName) object_method_1_code (1 : Nat) (Option.none : Option Jvm.ClassFile.FieldType)).before args0 about1 = true := code_word (m := ⟨0, 0⟩) (meth := k0m0) (c := k0c0) (by decide +kernel) rfl rfl rfl (by decide +kernel)
set_option maxRecDepth 65536 in
theorem w_c5 : (Jvm.Cond.code ({ cls := "com/example/gapwright/gapwright/profile/FreeRuns", name := "<init>", desc := "(Lcom/example/gapwright/gapwright/profile/CpuProfile;)V" } : Jvm.MethodName) prog_119_method_1_code (2 : Nat) (Option.none : Option Jvm.ClassFile.FieldType)).before args0 about1 = true := code_word (m := ⟨4, 0⟩) (meth := k4m0) (c := k4c0) (by decide +kernel) rfl rfl rfl (by decide +kernel)
set_option maxRecDepth 65536 in
theorem w_c6 : (Jvm.Cond.code ({ cls := "com/example/gapwright/gapwright/profile/CpuProfile", name := "book", desc := "(JJI)V" } : Jvm.MethodName) prog_103_method_31_code (6 : Nat) (Option.none : Option Jvm.ClassFile.FieldType)).before args0 about1 = true := code_word (m := ⟨3, 3⟩) (meth := k3m3) (c := k3c3) (by decide +kernel) rfl rfl rfl (by decide +kernel)
set_option maxRecDepth 65536 in
theorem w_c7 : (Jvm.Cond.code ({ cls := "com/example/gapwright/gapwright/profile/CpuProfile", name := "add", desc := "(JJI)V" } : Jvm.MethodName) prog_103_method_41_code (10 : Nat) (Option.none : Option Jvm.ClassFile.FieldType)).before args0 about1 = true := code_word (m := ⟨3, 6⟩) (meth := k3m6) (c := k3c6) (by decide +kernel) rfl rfl rfl (by decide +kernel)
set_option maxRecDepth 65536 in
theorem w_c8 : (Jvm.Cond.code ({ cls := "com/example/gapwright/gapwright/profile/CpuProfile", name := "countsChanged", desc := "()V" } : Jvm.MethodName) prog_103_method_26_code (1 : Nat) (Option.none : Option Jvm.ClassFile.FieldType)).before args0 about1 = true := code_word (m := ⟨3, 2⟩) (meth := k3m2) (c := k3c2) (by decide +kernel) rfl rfl rfl (by decide +kernel)
set_option maxRecDepth 65536 in
theorem w_c9 : (Jvm.Cond.code ({ cls := "com/example/gapwright/gapwright/profile/CpuProfile$1", name := "booked", desc := "(I)V" } : Jvm.MethodName) prog_104_method_2_code (2 : Nat) (Option.none : Option Jvm.ClassFile.FieldType)).before args0 about1 = true := code_word (m := ⟨6, 1⟩) (meth := k6m1) (c := k6c1) (by decide +kernel) rfl rfl rfl (by decide +kernel)
set_option maxRecDepth 65536 in
theorem w_c10 : (Jvm.Cond.code ({ cls := "com/example/gapwright/gapwright/profile/CpuProfile", name := "room", desc := "(I)I" } : Jvm.MethodName) prog_103_method_37_code (6 : Nat) (Option.some Jvm.ClassFile.FieldType.int)).before args0 about1 = true := code_word (m := ⟨3, 5⟩) (meth := k3m5) (c := k3c5) (by decide +kernel) rfl rfl rfl (by decide +kernel)
set_option maxRecDepth 65536 in
theorem w_c11 : (Jvm.Cond.code ({ cls := "com/example/gapwright/gapwright/profile/CpuProfile", name := "split", desc := "(J)I" } : Jvm.MethodName) prog_103_method_45_code (4 : Nat) (Option.some Jvm.ClassFile.FieldType.int)).before args0 about1 = true := code_word (m := ⟨3, 10⟩) (meth := k3m10) (c := k3c10) (by decide +kernel) rfl rfl rfl (by decide +kernel)
set_option maxRecDepth 65536 in
theorem w_c12 : (Jvm.Cond.code ({ cls := "com/example/gapwright/gapwright/profile/CpuProfile", name := "segmentAt", desc := "(J)I" } : Jvm.MethodName) prog_103_method_43_code (4 : Nat) (Option.some Jvm.ClassFile.FieldType.int)).before args0 about1 = true := code_word (m := ⟨3, 8⟩) (meth := k3m8) (c := k3c8) (by decide +kernel) rfl rfl rfl (by decide +kernel)
set_option maxRecDepth 65536 in
theorem w_c13 : (Jvm.Cond.code ({ cls := "com/example/gapwright/gapwright/profile/FreeRuns", name := "inserted", desc := "(I)V" } : Jvm.MethodName) prog_119_method_3_code (4 : Nat) (Option.none : Option Jvm.ClassFile.FieldType)).before args0 about1 = true := code_word (m := ⟨4, 2⟩) (meth := k4m2) (c := k4c2) (by decide +kernel) rfl rfl rfl (by decide +kernel)
set_option maxRecDepth 65536 in
theorem w_c14 : (Jvm.Cond.code ({ cls := "com/example/gapwright/gapwright/profile/CpuProfile", name := "check", desc := "(IJ)V" } : Jvm.MethodName) prog_103_method_42_code (4 : Nat) (Option.none : Option Jvm.ClassFile.FieldType)).before args0 about1 = true := code_word (m := ⟨3, 7⟩) (meth := k3m7) (c := k3c7) (by decide +kernel) rfl rfl rfl (by decide +kernel)
set_option maxRecDepth 65536 in
theorem w_c15 : (Jvm.Cond.code ({ cls := "com/example/gapwright/gapwright/profile/FreeRuns", name := "changed", desc := "(II)V" } : Jvm.MethodName) prog_119_method_2_code (4 : Nat) (Option.none : Option Jvm.ClassFile.FieldType)).before args0 about1 = true := code_word (m := ⟨4, 1⟩) (meth := k4m1) (c := k4c1) (by decide +kernel) rfl rfl rfl (by decide +kernel)
set_option maxRecDepth 65536 in
theorem w_c16 : (Jvm.Cond.code ({ cls := "com/example/gapwright/gapwright/profile/CpuProfile", name := "mergeWithPrevious", desc := "(I)V" } : Jvm.MethodName) prog_103_method_46_code (2 : Nat) (Option.none : Option Jvm.ClassFile.FieldType)).before args0 about1 = true := code_word (m := ⟨3, 11⟩) (meth := k3m11) (c := k3c11) (by decide +kernel) rfl rfl rfl (by decide +kernel)
set_option maxRecDepth 65536 in
theorem w_c17 : (Jvm.Cond.code ({ cls := "com/example/gapwright/gapwright/profile/CpuProfileChangedSincePinLaw", name := "apply", desc := "(Lcom/example/gapwright/gapwright/profile/CpuProfile;JII)V" } : Jvm.MethodName) method_9_code (9 : Nat) (Option.none : Option Jvm.ClassFile.FieldType)).before args0 about1 = true := code_word (m := ⟨1, 8⟩) (meth := k1m8) (c := k1c8) (by decide +kernel) rfl rfl rfl (by decide +kernel)
set_option maxRecDepth 65536 in
theorem w_c18 : (Jvm.Cond.code ({ cls := "com/example/gapwright/gapwright/profile/CpuProfileChangedSincePinLaw", name := "start", desc := "(JI)J" } : Jvm.MethodName) method_6_code (3 : Nat) (Option.some Jvm.ClassFile.FieldType.long)).before args0 about1 = true := code_word (m := ⟨1, 5⟩) (meth := k1m5) (c := k1c5) (by decide +kernel) rfl rfl rfl (by decide +kernel)
set_option maxRecDepth 65536 in
theorem w_c19 : (Jvm.Cond.code ({ cls := "com/example/gapwright/gapwright/profile/CpuProfileChangedSincePinLaw", name := "lowField", desc := "(JI)I" } : Jvm.MethodName) method_4_code (3 : Nat) (Option.some Jvm.ClassFile.FieldType.int)).before args0 about1 = true := code_word (m := ⟨1, 3⟩) (meth := k1m3) (c := k1c3) (by decide +kernel) rfl rfl rfl (by decide +kernel)
set_option maxRecDepth 65536 in
theorem w_c20 : (Jvm.Cond.code ({ cls := "com/example/gapwright/gapwright/profile/CpuProfileChangedSincePinLaw", name := "highField", desc := "(JI)I" } : Jvm.MethodName) method_5_code (3 : Nat) (Option.some Jvm.ClassFile.FieldType.int)).before args0 about1 = true := code_word (m := ⟨1, 4⟩) (meth := k1m4) (c := k1c4) (by decide +kernel) rfl rfl rfl (by decide +kernel)
set_option maxRecDepth 65536 in
theorem w_c21 : (Jvm.Cond.code ({ cls := "java/lang/Math", name := "min", desc := "(II)I" } : Jvm.MethodName) jdk_29_method_69_code (2 : Nat) (Option.some Jvm.ClassFile.FieldType.int)).before args0 about1 = true := code_word (m := ⟨2, 3⟩) (meth := k2m3) (c := k2c3) (by decide +kernel) rfl rfl rfl (by decide +kernel)
set_option maxRecDepth 65536 in
theorem w_c22 : (Jvm.Cond.code ({ cls := "com/example/gapwright/gapwright/profile/CpuProfileChangedSincePinLaw", name := "at", desc := "(I)J" } : Jvm.MethodName) method_3_code (1 : Nat) (Option.some Jvm.ClassFile.FieldType.long)).before args0 about1 = true := code_word (m := ⟨1, 2⟩) (meth := k1m2) (c := k1c2) (by decide +kernel) rfl rfl rfl (by decide +kernel)
set_option maxRecDepth 65536 in
theorem w_c23 : (Jvm.Cond.code ({ cls := "com/example/gapwright/gapwright/profile/CpuProfileChangedSincePinLaw", name := "end", desc := "(JI)J" } : Jvm.MethodName) method_7_code (3 : Nat) (Option.some Jvm.ClassFile.FieldType.long)).before args0 about1 = true := code_word (m := ⟨1, 6⟩) (meth := k1m6) (c := k1c6) (by decide +kernel) rfl rfl rfl (by decide +kernel)
set_option maxRecDepth 65536 in
theorem w_c24 : (Jvm.Cond.code ({ cls := "java/lang/Math", name := "max", desc := "(II)I" } : Jvm.MethodName) jdk_29_method_65_code (2 : Nat) (Option.some Jvm.ClassFile.FieldType.int)).before args0 about1 = true := code_word (m := ⟨2, 1⟩) (meth := k2m1) (c := k2c1) (by decide +kernel) rfl rfl rfl (by decide +kernel)
set_option maxRecDepth 65536 in
theorem w_c25 : (Jvm.Cond.code ({ cls := "com/example/gapwright/gapwright/profile/CpuProfileChangedSincePinLaw", name := "released", desc := "(II)Z" } : Jvm.MethodName) method_8_code (2 : Nat) (Option.some Jvm.ClassFile.FieldType.boolean)).before args0 about1 = true := code_word (m := ⟨1, 7⟩) (meth := k1m7) (c := k1c7) (by decide +kernel) rfl rfl rfl (by decide +kernel)
set_option maxRecDepth 65536 in
theorem w_c26 : (Jvm.Cond.code ({ cls := "com/example/gapwright/gapwright/profile/CpuProfile", name := "placeAtOrBefore", desc := "([JIIIJ)I" } : Jvm.MethodName) prog_103_method_44_code (9 : Nat) (Option.some Jvm.ClassFile.FieldType.int)).before args0 about1 = true := code_word (m := ⟨3, 9⟩) (meth := k3m9) (c := k3c9) (by decide +kernel) rfl rfl rfl (by decide +kernel)
set_option maxRecDepth 65536 in
theorem w_c27 : (Jvm.Cond.code ({ cls := "com/example/gapwright/gapwright/profile/FreeRuns", name := "moved", desc := "()V" } : Jvm.MethodName) prog_119_method_5_code (1 : Nat) (Option.none : Option Jvm.ClassFile.FieldType)).before args0 about1 = true := code_word (m := ⟨4, 4⟩) (meth := k4m4) (c := k4c4) (by decide +kernel) rfl rfl rfl (by decide +kernel)
set_option maxRecDepth 65536 in
theorem w_c28 : (Jvm.Cond.code ({ cls := "com/example/gapwright/gapwright/profile/FreeRuns", name := "removed", desc := "(I)V" } : Jvm.MethodName) prog_119_method_4_code (4 : Nat) (Option.none : Option Jvm.ClassFile.FieldType)).before args0 about1 = true := code_word (m := ⟨4, 3⟩) (meth := k4m3) (c := k4c3) (by decide +kernel) rfl rfl rfl (by decide +kernel)
set_option maxRecDepth 65536 in
theorem w_c29 : (Jvm.Cond.code ({ cls := "com/example/gapwright/gapwright/profile/CpuProfileChangedSincePinLaw", name := "relBefore", desc := "(JIIIJ)Z" } : Jvm.MethodName) method_10_code (7 : Nat) (Option.some Jvm.ClassFile.FieldType.boolean)).before args0 about1 = true := code_word (m := ⟨1, 9⟩) (meth := k1m9) (c := k1c9) (by decide +kernel) rfl rfl rfl (by decide +kernel)
set_option maxRecDepth 65536 in
theorem w_c30 : (Jvm.Cond.code ({ cls := "com/example/gapwright/gapwright/profile/CpuProfileChangedSincePinLaw", name := "bookOver", desc := "(JIIIJJ)Z" } : Jvm.MethodName) method_11_code (9 : Nat) (Option.some Jvm.ClassFile.FieldType.boolean)).before args0 about1 = true := code_word (m := ⟨1, 10⟩) (meth := k1m10) (c := k1c10) (by decide +kernel) rfl rfl rfl (by decide +kernel)
set_option maxRecDepth 65536 in
theorem w_c31 : (Jvm.Cond.code ({ cls := "com/example/gapwright/gapwright/profile/CpuProfile", name := "changedSince", desc := "(JJJ)I" } : Jvm.MethodName) prog_103_method_23_code (11 : Nat) (Option.some Jvm.ClassFile.FieldType.int)).before args0 about1 = true := code_word (m := ⟨3, 1⟩) (meth := k3m1) (c := k3c1) (by decide +kernel) rfl rfl rfl (by decide +kernel)
set_option maxRecDepth 65536 in
theorem w_c32 : (Jvm.Cond.code ({ cls := "com/example/gapwright/gapwright/profile/CpuProfile", name := "release", desc := "(JJI)V" } : Jvm.MethodName) prog_103_method_32_code (6 : Nat) (Option.none : Option Jvm.ClassFile.FieldType)).before args0 about1 = true := code_word (m := ⟨3, 4⟩) (meth := k3m4) (c := k3c4) (by decide +kernel) rfl rfl rfl (by decide +kernel)
def codes1 : List Jvm.Cond := [Jvm.Cond.code x code maxLocals ret, Jvm.Cond.code ({ cls := "java/lang/Math", name := "min", desc := "(JJ)J" } : Jvm.MethodName) jdk_29_method_70_code (4 : Nat) (Option.some Jvm.ClassFile.FieldType.long), Jvm.Cond.code ({ cls := "java/lang/Math", name := "max", desc := "(JJ)J" } : Jvm.MethodName) jdk_29_method_66_code (4 : Nat) (Option.some Jvm.ClassFile.FieldType.long), Jvm.Cond.code ({ cls := "com/example/gapwright/gapwright/profile/CpuProfile", name := "<init>", desc := "(I)V" } : Jvm.MethodName) prog_103_method_1_code (2 : Nat) (Option.none : Option Jvm.ClassFile.FieldType), Jvm.Cond.code ({ cls := "java/lang/Object", name := "<init>", desc := "()V" } : Jvm.MethodName) object_method_1_code (1 : Nat) (Option.none : Option Jvm.ClassFile.FieldType), Jvm.Cond.code ({ cls := "com/example/gapwright/gapwright/profile/FreeRuns", name := "<init>", desc := "(Lcom/example/gapwright/gapwright/profile/CpuProfile;)V" } : Jvm.MethodName) prog_119_method_1_code (2 : Nat) (Option.none : Option Jvm.ClassFile.FieldType), Jvm.Cond.code ({ cls := "com/example/gapwright/gapwright/profile/CpuProfile", name := "book", desc := "(JJI)V" } : Jvm.MethodName) prog_103_method_31_code (6 : Nat) (Option.none : Option Jvm.ClassFile.FieldType), Jvm.Cond.code ({ cls := "com/example/gapwright/gapwright/profile/CpuProfile", name := "add", desc := "(JJI)V" } : Jvm.MethodName) prog_103_method_41_code (10 : Nat) (Option.none : Option Jvm.ClassFile.FieldType), Jvm.Cond.code ({ cls := "com/example/gapwright/gapwright/profile/CpuProfile", name := "countsChanged", desc := "()V" } : Jvm.MethodName) prog_103_method_26_code (1 : Nat) (Option.none : Option Jvm.ClassFile.FieldType), Jvm.Cond.code ({ cls := "com/example/gapwright/gapwright/profile/CpuProfile$1", name := "booked", desc := "(I)V" } : Jvm.MethodName) prog_104_method_2_code (2 : Nat) (Option.none : Option Jvm.ClassFile.FieldType), Jvm.Cond.code ({ cls := "com/example/gapwright/gapwright/profile/CpuProfile", name := "room", desc := "(I)I" } : Jvm.MethodName) prog_103_method_37_code (6 : Nat) (Option.some Jvm.ClassFile.FieldType.int), Jvm.Cond.code ({ cls := "com/example/gapwright/gapwright/profile/CpuProfile", name := "split", desc := "(J)I" } : Jvm.MethodName) prog_103_method_45_code (4 : Nat) (Option.some Jvm.ClassFile.FieldType.int), Jvm.Cond.code ({ cls := "com/example/gapwright/gapwright/profile/CpuProfile", name := "segmentAt", desc := "(J)I" } : Jvm.MethodName) prog_103_method_43_code (4 : Nat) (Option.some Jvm.ClassFile.FieldType.int), Jvm.Cond.code ({ cls := "com/example/gapwright/gapwright/profile/FreeRuns", name := "inserted", desc := "(I)V" } : Jvm.MethodName) prog_119_method_3_code (4 : Nat) (Option.none : Option Jvm.ClassFile.FieldType), Jvm.Cond.code ({ cls := "com/example/gapwright/gapwright/profile/CpuProfile", name := "check", desc := "(IJ)V" } : Jvm.MethodName) prog_103_method_42_code (4 : Nat) (Option.none : Option Jvm.ClassFile.FieldType), Jvm.Cond.code ({ cls := "com/example/gapwright/gapwright/profile/FreeRuns", name := "changed", desc := "(II)V" } : Jvm.MethodName) prog_119_method_2_code (4 : Nat) (Option.none : Option Jvm.ClassFile.FieldType), Jvm.Cond.code ({ cls := "com/example/gapwright/gapwright/profile/CpuProfile", name := "mergeWithPrevious", desc := "(I)V" } : Jvm.MethodName) prog_103_method_46_code (2 : Nat) (Option.none : Option Jvm.ClassFile.FieldType), Jvm.Cond.code ({ cls := "com/example/gapwright/gapwright/profile/CpuProfileChangedSincePinLaw", name := "apply", desc := "(Lcom/example/gapwright/gapwright/profile/CpuProfile;JII)V" } : Jvm.MethodName) method_9_code (9 : Nat) (Option.none : Option Jvm.ClassFile.FieldType), Jvm.Cond.code ({ cls := "com/example/gapwright/gapwright/profile/CpuProfileChangedSincePinLaw", name := "start", desc := "(JI)J" } : Jvm.MethodName) method_6_code (3 : Nat) (Option.some Jvm.ClassFile.FieldType.long), Jvm.Cond.code ({ cls := "com/example/gapwright/gapwright/profile/CpuProfileChangedSincePinLaw", name := "lowField", desc := "(JI)I" } : Jvm.MethodName) method_4_code (3 : Nat) (Option.some Jvm.ClassFile.FieldType.int), Jvm.Cond.code ({ cls := "com/example/gapwright/gapwright/profile/CpuProfileChangedSincePinLaw", name := "highField", desc := "(JI)I" } : Jvm.MethodName) method_5_code (3 : Nat) (Option.some Jvm.ClassFile.FieldType.int), Jvm.Cond.code ({ cls := "java/lang/Math", name := "min", desc := "(II)I" } : Jvm.MethodName) jdk_29_method_69_code (2 : Nat) (Option.some Jvm.ClassFile.FieldType.int), Jvm.Cond.code ({ cls := "com/example/gapwright/gapwright/profile/CpuProfileChangedSincePinLaw", name := "at", desc := "(I)J" } : Jvm.MethodName) method_3_code (1 : Nat) (Option.some Jvm.ClassFile.FieldType.long), Jvm.Cond.code ({ cls := "com/example/gapwright/gapwright/profile/CpuProfileChangedSincePinLaw", name := "end", desc := "(JI)J" } : Jvm.MethodName) method_7_code (3 : Nat) (Option.some Jvm.ClassFile.FieldType.long), Jvm.Cond.code ({ cls := "java/lang/Math", name := "max", desc := "(II)I" } : Jvm.MethodName) jdk_29_method_65_code (2 : Nat) (Option.some Jvm.ClassFile.FieldType.int), Jvm.Cond.code ({ cls := "com/example/gapwright/gapwright/profile/CpuProfileChangedSincePinLaw", name := "released", desc := "(II)Z" } : Jvm.MethodName) method_8_code (2 : Nat) (Option.some Jvm.ClassFile.FieldType.boolean), Jvm.Cond.code ({ cls := "com/example/gapwright/gapwright/profile/CpuProfile", name := "placeAtOrBefore", desc := "([JIIIJ)I" } : Jvm.MethodName) prog_103_method_44_code (9 : Nat) (Option.some Jvm.ClassFile.FieldType.int), Jvm.Cond.code ({ cls := "com/example/gapwright/gapwright/profile/FreeRuns", name := "moved", desc := "()V" } : Jvm.MethodName) prog_119_method_5_code (1 : Nat) (Option.none : Option Jvm.ClassFile.FieldType), Jvm.Cond.code ({ cls := "com/example/gapwright/gapwright/profile/FreeRuns", name := "removed", desc := "(I)V" } : Jvm.MethodName) prog_119_method_4_code (4 : Nat) (Option.none : Option Jvm.ClassFile.FieldType), Jvm.Cond.code ({ cls := "com/example/gapwright/gapwright/profile/CpuProfileChangedSincePinLaw", name := "relBefore", desc := "(JIIIJ)Z" } : Jvm.MethodName) method_10_code (7 : Nat) (Option.some Jvm.ClassFile.FieldType.boolean), Jvm.Cond.code ({ cls := "com/example/gapwright/gapwright/profile/CpuProfileChangedSincePinLaw", name := "bookOver", desc := "(JIIIJJ)Z" } : Jvm.MethodName) method_11_code (9 : Nat) (Option.some Jvm.ClassFile.FieldType.boolean), Jvm.Cond.code ({ cls := "com/example/gapwright/gapwright/profile/CpuProfile", name := "changedSince", desc := "(JJJ)I" } : Jvm.MethodName) prog_103_method_23_code (11 : Nat) (Option.some Jvm.ClassFile.FieldType.int), Jvm.Cond.code ({ cls := "com/example/gapwright/gapwright/profile/CpuProfile", name := "release", desc := "(JJI)V" } : Jvm.MethodName) prog_103_method_32_code (6 : Nat) (Option.none : Option Jvm.ClassFile.FieldType)]
set_option maxRecDepth 65536 in
theorem codes_eq : words1.filter isCode = codes1 := rfl
theorem w_codes : ∀ c ∈ words1.filter isCode, c.before args0 about1 = true := by
  rw [codes_eq]
  intro c hc
  simp only [codes1, List.mem_cons, List.not_mem_nil, or_false] at hc
  rcases hc with rfl | rfl | rfl | rfl | rfl | rfl | rfl | rfl | rfl | rfl | rfl | rfl | rfl | rfl | rfl | rfl | rfl | rfl | rfl | rfl | rfl | rfl | rfl | rfl | rfl | rfl | rfl | rfl | rfl | rfl | rfl | rfl | rfl
  · exact w_c0
  · exact w_c1
  · exact w_c2
  · exact w_c3
  · exact w_c4
  · exact w_c5
  · exact w_c6
  · exact w_c7
  · exact w_c8
  · exact w_c9
  · exact w_c10
  · exact w_c11
  · exact w_c12
  · exact w_c13
  · exact w_c14
  · exact w_c15
  · exact w_c16
  · exact w_c17
  · exact w_c18
  · exact w_c19
  · exact w_c20
  · exact w_c21
  · exact w_c22
  · exact w_c23
  · exact w_c24
  · exact w_c25
  · exact w_c26
  · exact w_c27
  · exact w_c28
  · exact w_c29
  · exact w_c30
  · exact w_c31
  · exact w_c32
set_option maxRecDepth 65536 in
theorem w_t1 : (words1.take 24).all (fun c => isCode c || c.before args0 about1) = true := by decide +kernel
set_option maxRecDepth 65536 in
theorem w_t2 : ((words1.drop 24).take 24).all (fun c => isCode c || c.before args0 about1) = true := by decide +kernel
set_option maxRecDepth 65536 in
theorem w_t3 : (((words1.drop 24).drop 24).take 24).all (fun c => isCode c || c.before args0 about1) = true := by decide +kernel
set_option maxRecDepth 65536 in
theorem w_t4 : ((((words1.drop 24).drop 24).drop 24).take 24).all (fun c => isCode c || c.before args0 about1) = true := by decide +kernel
set_option maxRecDepth 65536 in
theorem w_t5 : (((((words1.drop 24).drop 24).drop 24).drop 24).take 24).all (fun c => isCode c || c.before args0 about1) = true := by decide +kernel
set_option maxRecDepth 65536 in
theorem w_t6 : ((((((words1.drop 24).drop 24).drop 24).drop 24).drop 24).take 24).all (fun c => isCode c || c.before args0 about1) = true := by decide +kernel
set_option maxRecDepth 65536 in
theorem w_t7 : (((((((words1.drop 24).drop 24).drop 24).drop 24).drop 24).drop 24).take 24).all (fun c => isCode c || c.before args0 about1) = true := by decide +kernel
set_option maxRecDepth 65536 in
theorem w_t8 : (((((((words1.drop 24).drop 24).drop 24).drop 24).drop 24).drop 24).drop 24).all (fun c => isCode c || c.before args0 about1) = true := by decide +kernel
theorem w_tables : (allAtoms (Jvm.Cond.code x code maxLocals ret :: tables_1)).before args0 about1 = true := by
  rw [allAtoms_all]
  show words1.all (fun c => c.before args0 about1) = true
  refine all_split ?_ w_codes
  rw [← List.take_append_drop 24 words1, List.all_append, w_t1, ← List.take_append_drop 24 (words1.drop 24), List.all_append, w_t2, ← List.take_append_drop 24 ((words1.drop 24).drop 24), List.all_append, w_t3, ← List.take_append_drop 24 (((words1.drop 24).drop 24).drop 24), List.all_append, w_t4, ← List.take_append_drop 24 ((((words1.drop 24).drop 24).drop 24).drop 24), List.all_append, w_t5, ← List.take_append_drop 24 (((((words1.drop 24).drop 24).drop 24).drop 24).drop 24), List.all_append, w_t6, ← List.take_append_drop 24 ((((((words1.drop 24).drop 24).drop 24).drop 24).drop 24).drop 24), List.all_append, w_t7, w_t8]
  rfl
set_option maxRecDepth 65536 in
theorem w_case : (Jvm.Cond.and given_1 narrow_1).before args0 about1 = true := by decide +kernel
theorem w_applies : (headSpec (Jvm.Cond.code x code maxLocals ret :: tables_1) room_1).applies x e0.platform about1 = true :=
  (Spec.applies_iff w_frames).mpr ⟨w_running, w_runnable, w_alone, w_named, w_hears, w_ripe, w_room, w_tables⟩
theorem atStart : AtStart classFile x code maxLocals ret World_1 tables_1 room_1 Calls_1 rest_1 Pre_1 launch0 p0 e0 about1 theMethod args0 below0 :=
  ⟨lists_1, trivial, launch0.admits_env _ _ _, launch0.least_env, fairChoices_fair.cas, fairChoices_fair.clock, w_frames, w_args, w_heap, w_applies, trivial, trivial, w_case⟩
end start1
theorem witness_1 : WitnessClaimed_1 := ⟨start1.p0, start1.e0, start1.about1, start1.theMethod, start1.args0, start1.below0, start1.atStart⟩
end Jvm.Pilot.@@N@@
