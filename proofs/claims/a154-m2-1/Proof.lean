import JvmDerived
import JvmDerived.Pilot.@@N@@Statement
import JvmDerived.Pilot.@@N@@Code
set_option linter.unusedVariables false
set_option linter.unusedSimpArgs false
namespace Jvm.Pilot.@@N@@
open Jvm Jvm.ClassFile Sem Op Lib Jvm.Free Jvm.Stand Jvm.LawKit Jvm.RoadKit Bundle Jvm.Pilot.@@N@@.Jvm.D
/-! own: a walk carried forward as a goal, with forks -/
def o_G (p : Program) (e : Env) (below : List Frame) (s : State) (Q : Option Value → Heap → List Loc → Prop) (C S : Nat) (T : State) (f : JFrame) : Prop :=
  ∃ s₂ o, Steps p.tables e below (T.setTop f) s₂ ∧ s₂.status = .running ∧ Ended s₂ below o ∧ ∃ v L, o = .returned v ∧ Q v s₂.heap L ∧ FrameEnd s o s₂ L C S
abbrev o_C0 (l : Launch) (y : MethodName) (bytes : ByteArray) (maxL : Nat) (ret : Option FieldType) (ws : List Jvm.Cond) (rm : Room) (Z : State) (h : Heap) (as' : Array Value) (Q : Option Value → Heap → List Loc → Prop) (C S : Nat) : Prop :=
  MetFree l y (head1 (Jvm.Cond.code y bytes maxL ret :: ws) rm) (fun a U => a = as' ∧ Z.Warmed39 U.vm ∧ U.heap = h) (fun _ _ _ _ _ => True) (fun _ U o U' => ∃ v L, o = .returned v ∧ Q v U'.heap L ∧ FrameEnd U o U' L C S)
abbrev o_C (l : Launch) (y : MethodName) (bytes : ByteArray) (maxL : Nat) (ret : Option FieldType) (rm : Room) (Z : State) (h : Heap) (as' : Array Value) (Q : Option Value → Heap → List Loc → Prop) : Prop :=
  o_C0 l y bytes maxL ret [] rm Z h as' Q rm.cells rm.slots
/-- what a body says that writes nothing: its value -/
def o_P (r : Option Value) (h0 : Heap) (v : Option Value) (h : Heap) (L : List Loc) : Prop := v = r ∧ L = [] ∧ h = h0
abbrev o_R (f c n k : Nat) : Room := { frames := f, cells := c, slots := n, locals := k }
theorem o_body {l : Launch} {y : MethodName} {bytes : ByteArray} {maxL : Nat} {ret : Option FieldType} {ws : List Jvm.Cond} {rm : Room} {Z : State} {h0 : Heap} {as' : Array Value} {Q : Option Value → Heap → List Loc → Prop} {C S : Nat} (hpn : plainFor y = true)
    (body : ∀ p e s m below meth c s₁, p.tables.exec = Jvm.exec → c.code = bytes → c.maxLocals = maxL → Z.Warmed39 s.vm → s.vm.findClass y.cls = some m.cls → meth.name = y.name → meth.sig.returnType = ret → meth.locks = false →
      Stand p l e rm s m as' below meth c s₁ [] 0 0 → s₁.heap = h0 → o_G p e below s Q C S s₁ (entryFrame m as' maxL)) : o_C0 l y bytes maxL ret ws rm Z h0 as' Q C S := by
  refine MetFree.of_bodySF hpn hisR ?_
  intro p e s m args below meth c s₁ Bd hml hP hK
  obtain ⟨rfl, hZ, hh⟩ := hP
  exact body p e s m below meth c s₁ Bd.exec Bd.bytes hml hZ (findClass_of_methodNamed Bd.named) (name_of_methodNamed Bd.named Bd.method).1 Bd.returns Bd.notSynchronized (Stand.of_body Bd) (by rw [← hh, Bd.state]; rfl)
section Own
variable {p : Program} {l : Launch} {e : Env} {R : Room} {s : State} {m : MethodId} {args : Array Value} {below : List Frame} {meth : Method} {c : Code} {T T' : State} {locs : List Loc} {cells slots : Nat} {Q : Option Value → Heap → List Loc → Prop} {C S : Nat} {f f' : JFrame} {Z : State} {a0 : Array Value} {h : Heap}
theorem o_st (k : ∀ target, Steps p.tables e below (T'.setTop f') target → Steps p.tables e below (T.setTop f) target) (g : o_G p e below s Q C S T' f') : o_G p e below s Q C S T f := by
  obtain ⟨t, o, h1, h2⟩ := g
  exact ⟨t, o, k t h1, h2⟩
theorem o_q (T' : State) (f' : JFrame) (k : ∀ target, Steps p.tables e below (T'.setTop f') target → Steps p.tables e below (T.setTop f) target) (g : o_G p e below s Q C S T' f') : o_G p e below s Q C S T f := o_st k g
theorem o_cast (q : f = f') (g : o_G p e below s Q C S T f') : o_G p e below s Q C S T f := q ▸ g
theorem o_end {v : Option Value} (X : Stand p l e R s m args below meth c T locs cells slots) (hlk : meth.locks = false) (hv : meth.sig.returnType = none → v = none)
    (k : ∀ fs, (∀ (f : JFrame) (acts : List Action), f.method = m → f.locked = none → f.entered = [] → (doReturn e (T.setTop f) acts v).1 = T.setFrames fs) → Steps p.tables e below (T.setTop f) (T.setFrames fs))
    (hq : Q v T.heap locs) (hC : cells ≤ C) (hS : slots ≤ S) : o_G p e below s Q C S T f := by
  obtain ⟨fs, hr, hrun, hended, hW, hsame⟩ := X.leave (v := v) hv hlk
  exact ⟨_, _, k fs hr, hrun, hended, v, locs, rfl, hq, ⟨_, rfl⟩, hW, hsame.mono hC hS⟩
theorem o_retI (X : Stand p l e R s m args below meth c T locs cells slots) (hx : p.tables.exec = Jvm.exec) (hlk : meth.locks = false) (hret : meth.sig.returnType = some .int) {pc : Nat} {Ls : Array Slot} {z : Int32} {rest : List Value} (hd : decode c.code pc = .ok (.ireturn, 1))
    (hq : Q (some (.int z)) T.heap locs) (hC : cells ≤ C) (hS : slots ≤ S) : o_G p e below s Q C S T (mkF m pc Ls (.int z :: rest)) :=
  o_end X hlk (fun h => by rw [hret] at h; cases h) (fun fs hr => retOut X hx hret rfl (Or.inl ⟨rfl, Or.inl rfl, z, rfl⟩) hd hr) hq hC hS
theorem o_retN (X : Stand p l e R s m args below meth c T locs cells slots) (hx : p.tables.exec = Jvm.exec) (hlk : meth.locks = false) {t : FieldType} (hret : meth.sig.returnType = some t) (ht : t = .boolean ∨ t = .byte ∨ t = .char ∨ t = .short) {pc : Nat} {Ls : Array Slot} {z : Int32} {rest : List Value} (hd : decode c.code pc = .ok (.ireturn, 1))
    (hq : Q (some (.int (nar t z))) T.heap locs) (hC : cells ≤ C) (hS : slots ≤ S) : o_G p e below s Q C S T (mkF m pc Ls (.int z :: rest)) :=
  o_end X hlk (fun h => by rw [hret] at h; cases h) (fun fs hr => retN X hx hret ht hd hr) hq hC hS
theorem o_retJ (X : Stand p l e R s m args below meth c T locs cells slots) (hx : p.tables.exec = Jvm.exec) (hlk : meth.locks = false) (hret : meth.sig.returnType = some .long) {pc : Nat} {Ls : Array Slot} {z : Int64} {rest : List Value} (hd : decode c.code pc = .ok (.lreturn, 1))
    (hq : Q (some (.long z)) T.heap locs) (hC : cells ≤ C) (hS : slots ≤ S) : o_G p e below s Q C S T (mkF m pc Ls (.long z :: rest)) :=
  o_end X hlk (fun h => by rw [hret] at h; cases h) (fun fs hr => retOut X hx hret rfl (Or.inr (Or.inl ⟨rfl, rfl, z, rfl⟩)) hd hr) hq hC hS
theorem o_retA (X : Stand p l e R s m args below meth c T locs cells slots) (hx : p.tables.exec = Jvm.exec) (hlk : meth.locks = false) {t : FieldType} (hret : meth.sig.returnType = some t) (ht : t.isReference = true) {w : Value} (hw : w.isRef = true) {pc : Nat} {Ls : Array Slot} {rest : List Value} (hd : decode c.code pc = .ok (.areturn, 1))
    (hq : Q (some w) T.heap locs) (hC : cells ≤ C) (hS : slots ≤ S) : o_G p e below s Q C S T (mkF m pc Ls (w :: rest)) :=
  o_end X hlk (fun h => by rw [hret] at h; cases h) (fun fs hr => retOut X hx hret (by rcases ref_cases hw with rfl | ⟨a, rfl⟩ <;> cases t <;> first | rfl | (cases ht)) (Or.inr (Or.inr (Or.inr (Or.inr ⟨rfl, ht, hw⟩)))) hd hr) hq hC hS
theorem o_retV (X : Stand p l e R s m args below meth c T locs cells slots) (hx : p.tables.exec = Jvm.exec) (hlk : meth.locks = false) (hret : meth.sig.returnType = none) {pc : Nat} {Ls : Array Slot} (hd : decode c.code pc = .ok (.return_, 1))
    (hq : Q none T.heap locs) (hC : cells ≤ C) (hS : slots ≤ S) : o_G p e below s Q C S T (mkF m pc Ls []) :=
  o_end X hlk (fun _ => rfl) (fun fs hr => X.returnOut hx hret hd hr) hq hC hS
/-! calls by a contract: one row each -/
theorem o_callS (X : Stand p l e R s m args below meth c T locs cells slots) (hx : p.tables.exec = Jvm.exec) (hZ : Z.Warmed39 s.vm) (eT : T.heap = h) {own : String} {index : Nat} {y : MethodName} (hown : s.vm.findClass own = some m.cls) (w1 : (Cond.methodLink own index y).before a0 Z = true) (w2 : (Cond.static y).before a0 Z = true)
    (hy : y.cls ≠ "java/lang/invoke/MethodHandle" ∧ y.cls ≠ "java/lang/invoke/VarHandle") {bytes : ByteArray} {maxL : Nat} {ret : Option FieldType} {rm : Room} {as' : Array Value} (wc : (Cond.code y bytes maxL ret).before a0 Z = true) (wz : (Cond.initialized y.cls).before a0 Z = true) (hM : o_C l y bytes maxL ret rm Z h as' Q)
    {g : JFrame} (hg : g.method = m) (hsize : g.locals.size = c.maxLocals) (hmr : g.monitorRoom = 0) {argsL rest : List Value} (has : argsL.toArray = as') (hlen : ∀ sig, parseMethodDescriptor y.desc = some sig → argsL.length = sig.parameters.length) (hstack : g.stack = argsL.reverse ++ rest) (hd : decode c.code g.pc = .ok (.invokestatic index, 3))
    (hf : rm.frames + 1 ≤ R.frames) (hl : (rest.map fun v => v.category).sum + (maxL + 11) + rm.locals ≤ R.locals) (hc : cells + rm.cells ≤ R.cells) (hs : slots + rm.slots ≤ R.slots) :
    ∃ v T' L, Q v T'.heap L ∧ Stand p l e R s m args below meth c T' (locs ++ L) (cells + rm.cells) (slots + rm.slots) ∧ ∀ target, Steps p.tables e below (T'.setTop { g with pc := g.pc + 3, stack := v.toList ++ rest }) target → Steps p.tables e below (T.setTop g) target := by
  obtain ⟨v, _, ⟨T1, L1, k1, n1⟩, -, X1, ⟨Lc, hQ, l1, y1, z1⟩, st⟩ := Jvm.LawKit.callS X hx (y := y) hown (mvT hZ w1) (mvT hZ w2) (mvT hZ wz) (mvT hZ wc) hy (backOf (W := (rest.map fun v => v.category).sum) hM hZ wc wz hf hl) hg hsize (argsL := argsL) (rest := rest) hlen hstack (by rw [hmr]; omega) hd (fun _ _ => ⟨has, eT, hc, hs⟩)
  dsimp only [Pt.U, Pt.locs, Pt.cells, Pt.slots] at X1 l1 y1 z1 st hQ
  subst l1 y1 z1
  exact ⟨v, T1, Lc, hQ, X1, st⟩
theorem o_callN (X : Stand p l e R s m args below meth c T locs cells slots) (hx : p.tables.exec = Jvm.exec) (hZ : Z.Warmed39 s.vm) (eT : T.heap = h) {own : String} {index : Nat} {y : MethodName} (hown : s.vm.findClass own = some m.cls) (hy1 : y.name = "<init>") (w1 : (Cond.methodLink own index y).before a0 Z = true) (w2 : (Cond.instanceMethod y).before a0 Z = true)
    (hy : y.cls ≠ "java/lang/invoke/MethodHandle" ∧ y.cls ≠ "java/lang/invoke/VarHandle") {a : Addr} {bytes : ByteArray} {maxL : Nat} {rm : Room} {as' : Array Value} (wc : (Cond.code y bytes maxL none).before a0 Z = true) (wz : (Cond.initialized y.cls).before a0 Z = true) (hM : o_C l y bytes maxL none rm Z h as' Q)
    {g : JFrame} (hg : g.method = m) (hsize : g.locals.size = c.maxLocals) (hmr : g.monitorRoom = 0) {argsL rest : List Value} (has : (Value.ref a :: argsL).toArray = as') (hlen : ∀ sig, parseMethodDescriptor y.desc = some sig → argsL.length = sig.parameters.length) (hstack : g.stack = argsL.reverse ++ .ref a :: rest) (hd : decode c.code g.pc = .ok (.invokespecial index, 3))
    (hf : rm.frames + 1 ≤ R.frames) (hl : (rest.map fun v => v.category).sum + (maxL + 11) + rm.locals ≤ R.locals) (hc : cells + rm.cells ≤ R.cells) (hs : slots + rm.slots ≤ R.slots) :
    ∃ v T' L, Q v T'.heap L ∧ Stand p l e R s m args below meth c T' (locs ++ L) (cells + rm.cells) (slots + rm.slots) ∧ ∀ target, Steps p.tables e below (T'.setTop { g with pc := g.pc + 3, stack := v.toList ++ rest }) target → Steps p.tables e below (T.setTop g) target := by
  obtain ⟨v, _, ⟨T1, L1, k1, n1⟩, -, X1, ⟨Lc, hQ, l1, y1, z1⟩, st⟩ := X.specialBack hx (y := y) hy1 hown (mvT hZ w1) (mvT hZ w2) (mvT hZ wc) hy (backOf (W := (rest.map fun v => v.category).sum) hM hZ wc wz hf hl) hg hsize (Steps.refl _) (a := a) (argsL := argsL) (rest := rest) hlen hstack (by rw [hmr]; omega) hd (fun _ _ => ⟨has, eT, hc, hs⟩)
  dsimp only [Pt.U, Pt.locs, Pt.cells, Pt.slots] at X1 l1 y1 z1 st hQ
  subst l1 y1 z1
  exact ⟨v, T1, Lc, hQ, X1, fun _ k => st.trans k⟩
theorem o_callV' (X : Stand p l e R s m args below meth c T locs cells slots) (hx : p.tables.exec = Jvm.exec) (hZ : Z.Warmed39 s.vm) (eT : T.heap = h) {own K : String} {index : Nat} {y z : MethodName} (hown : s.vm.findClass own = some m.cls) (w1 : (Cond.methodLink own index y).before a0 Z = true) (w2 : (Cond.declares y).before a0 Z = true) (hnf : NotFace s y) (w3 : (Cond.selects K y z).before a0 Z = true) (w4 : (Cond.instanceMethod z).before a0 Z = true)
    (hy : y.cls ≠ "java/lang/invoke/MethodHandle" ∧ y.cls ≠ "java/lang/invoke/VarHandle") {b : Addr} (E : Exa Z h b K) {bytes : ByteArray} {maxL : Nat} {ret : Option FieldType} {rm : Room} {as' : Array Value} (wc : (Cond.code z bytes maxL ret).before a0 Z = true) (wz : (Cond.initialized z.cls).before a0 Z = true) (hM : o_C l z bytes maxL ret rm Z h as' Q)
    {g : JFrame} (hg : g.method = m) (hsize : g.locals.size = c.maxLocals) (hmr : g.monitorRoom = 0) {argsL rest : List Value} (has : (Value.ref b :: argsL).toArray = as') (hlen : ∀ sig, parseMethodDescriptor y.desc = some sig → argsL.length = sig.parameters.length) (hstack : g.stack = argsL.reverse ++ .ref b :: rest) (hd : decode c.code g.pc = .ok (.invokevirtual index, 3))
    (hf : rm.frames + 1 ≤ R.frames) (hl : (rest.map fun v => v.category).sum + (maxL + 11) + rm.locals ≤ R.locals) (hc : cells + rm.cells ≤ R.cells) (hs : slots + rm.slots ≤ R.slots) :
    ∃ v T' L, Q v T'.heap L ∧ Stand p l e R s m args below meth c T' (locs ++ L) (cells + rm.cells) (slots + rm.slots) ∧ ∀ target, Steps p.tables e below (T'.setTop { g with pc := g.pc + 3, stack := v.toList ++ rest }) target → Steps p.tables e below (T.setTop g) target := by
  obtain ⟨cq, kq, q1, q2, q3⟩ := isOf hZ eT E
  obtain ⟨v, _, ⟨T1, L1, k1, n1⟩, -, X1, ⟨Lc, hQ, l1, y1, z1⟩, st⟩ := X.virtualBack hx (y := y) (z := z) hown (mvT hZ w1) (mvT hZ w2) hnf (mvT hZ w3) (mvT hZ w4) hy (backOf (W := (rest.map fun v => v.category).sum) hM hZ wc wz hf hl) q1 q3 hg hsize (Steps.refl _) (argsL := argsL) (rest := rest) hlen hstack (by rw [hmr]; omega) hd (fun _ _ => ⟨has, eT, hc, hs⟩)
  dsimp only [Pt.U, Pt.locs, Pt.cells, Pt.slots] at X1 l1 y1 z1 st hQ
  subst l1 y1 z1
  exact ⟨v, T1, Lc, hQ, X1, fun _ k => st.trans k⟩
theorem o_callV (X : Stand p l e R s m args below meth c T locs cells slots) (hx : p.tables.exec = Jvm.exec) (hZ : Z.Warmed39 s.vm) (eT : T.heap = h) {own K : String} {index : Nat} {y : MethodName} (hown : s.vm.findClass own = some m.cls) (w1 : (Cond.methodLink own index y).before a0 Z = true) (w2 : (Cond.declares y).before a0 Z = true) (w3 : (Cond.selects K y y).before a0 Z = true) (w4 : (Cond.instanceMethod y).before a0 Z = true)
    (hy : y.cls ≠ "java/lang/invoke/MethodHandle" ∧ y.cls ≠ "java/lang/invoke/VarHandle") {b : Addr} (E : Exa Z h b K) {bytes : ByteArray} {maxL : Nat} {ret : Option FieldType} {rm : Room} {as' : Array Value} (wc : (Cond.code y bytes maxL ret).before a0 Z = true) (wz : (Cond.initialized y.cls).before a0 Z = true) (hM : o_C l y bytes maxL ret rm Z h as' Q)
    {g : JFrame} (hg : g.method = m) (hsize : g.locals.size = c.maxLocals) (hmr : g.monitorRoom = 0) {argsL rest : List Value} (has : (Value.ref b :: argsL).toArray = as') (hlen : ∀ sig, parseMethodDescriptor y.desc = some sig → argsL.length = sig.parameters.length) (hstack : g.stack = argsL.reverse ++ .ref b :: rest) (hd : decode c.code g.pc = .ok (.invokevirtual index, 3))
    (hf : rm.frames + 1 ≤ R.frames) (hl : (rest.map fun v => v.category).sum + (maxL + 11) + rm.locals ≤ R.locals) (hc : cells + rm.cells ≤ R.cells) (hs : slots + rm.slots ≤ R.slots) :
    ∃ v T' L, Q v T'.heap L ∧ Stand p l e R s m args below meth c T' (locs ++ L) (cells + rm.cells) (slots + rm.slots) ∧ ∀ target, Steps p.tables e below (T'.setTop { g with pc := g.pc + 3, stack := v.toList ++ rest }) target → Steps p.tables e below (T.setTop g) target :=
  o_callV' X hx hZ eT hown w1 w2 (notFace_of_selects (args := #[]) (mvT hZ w3)) w3 w4 hy E wc wz hM hg hsize hmr has hlen hstack hd hf hl hc hs
theorem o_callU (X : Stand p l e R s m args below meth c T locs cells slots) (hx : p.tables.exec = Jvm.exec) (hZ : Z.Warmed39 s.vm) (eT : T.heap = h) {own K owner : String} {index : Nat} {y z : MethodName} (hown : s.vm.findClass own = some m.cls) (w1 : (Cond.methodLink own index y).before a0 Z = true) (w0 : (Cond.sameMethod y.cls owner y.name y.desc).before a0 Z = true) (w2 : (Cond.declares ⟨owner, y.name, y.desc⟩).before a0 Z = true) (w3 : (Cond.selects K y z).before a0 Z = true) (w4 : (Cond.instanceMethod z).before a0 Z = true)
    (hy : owner ≠ "java/lang/invoke/MethodHandle" ∧ owner ≠ "java/lang/invoke/VarHandle") {b : Addr} (E : Exa Z h b K) {bytes : ByteArray} {maxL : Nat} {ret : Option FieldType} {rm : Room} {as' : Array Value} (wc : (Cond.code z bytes maxL ret).before a0 Z = true) (wz : (Cond.initialized z.cls).before a0 Z = true) (hM : o_C l z bytes maxL ret rm Z h as' Q)
    {g : JFrame} (hg : g.method = m) (hsize : g.locals.size = c.maxLocals) (hmr : g.monitorRoom = 0) {argsL rest : List Value} (has : (Value.ref b :: argsL).toArray = as') (hlen : ∀ sig, parseMethodDescriptor y.desc = some sig → argsL.length = sig.parameters.length) (hstack : g.stack = argsL.reverse ++ .ref b :: rest) (hd : decode c.code g.pc = .ok (.invokevirtual index, 3))
    (hf : rm.frames + 1 ≤ R.frames) (hl : (rest.map fun v => v.category).sum + (maxL + 11) + rm.locals ≤ R.locals) (hc : cells + rm.cells ≤ R.cells) (hs : slots + rm.slots ≤ R.slots) :
    ∃ v T' L, Q v T'.heap L ∧ Stand p l e R s m args below meth c T' (locs ++ L) (cells + rm.cells) (slots + rm.slots) ∧ ∀ target, Steps p.tables e below (T'.setTop { g with pc := g.pc + 3, stack := v.toList ++ rest }) target → Steps p.tables e below (T.setTop g) target := by
  obtain ⟨cq, kq, q1, q2, q3⟩ := isOf hZ eT E
  obtain ⟨v, _, ⟨T1, L1, k1, n1⟩, -, X1, ⟨Lc, hQ, l1, y1, z1⟩, st⟩ := X.virtualBackUp hx (x := y) (y := z) (owner := owner) hown (mvT hZ w1) (mvT hZ w0) (mvT hZ w2) hy (mvT hZ w3) (mvT hZ w4) (backOf (W := (rest.map fun v => v.category).sum) hM hZ wc wz hf hl) q1 q3 hg hsize (Steps.refl _) (argsL := argsL) (rest := rest) hlen hstack (by rw [hmr]; omega) hd (fun _ _ => ⟨has, eT, hc, hs⟩)
  dsimp only [Pt.U, Pt.locs, Pt.cells, Pt.slots] at X1 l1 y1 z1 st hQ
  subst l1 y1 z1
  exact ⟨v, T1, Lc, hQ, X1, fun _ k => st.trans k⟩
theorem o_selP {y : MethodName} {n : Nat} (wi : (Cond.instantiable y.cls n).before a0 Z = true) (w2 : (Cond.instanceMethod y).before a0 Z = true) (w3 : (Cond.privateMethod y).before a0 Z = true) (hy : y.cls ≠ "java/lang/invoke/MethodHandle" ∧ y.cls ≠ "java/lang/invoke/VarHandle") : (Cond.selects y.cls y y).before a0 Z = true := by
  obtain ⟨c, k, h1, h2, -, h4, -⟩ := Cond.instantiable_spec wi
  exact selects_self_of_private h1 h2 (by cases hq : k.isInterface <;> simp_all) (Cond.privateMethod_at w3) w2 hy
theorem o_callP (X : Stand p l e R s m args below meth c T locs cells slots) (hx : p.tables.exec = Jvm.exec) (hZ : Z.Warmed39 s.vm) (eT : T.heap = h) {own K : String} {index n : Nat} {y : MethodName} (hown : s.vm.findClass own = some m.cls) (w1 : (Cond.methodLink own index y).before a0 Z = true) (w2 : (Cond.instanceMethod y).before a0 Z = true) (wi : (Cond.instantiable y.cls n).before a0 Z = true) (w3 : (Cond.privateMethod y).before a0 Z = true)
    (hy : y.cls ≠ "java/lang/invoke/MethodHandle" ∧ y.cls ≠ "java/lang/invoke/VarHandle") {a : Addr} (E : Exa Z h a K) {bytes : ByteArray} {maxL : Nat} {ret : Option FieldType} {rm : Room} {as' : Array Value} (wc : (Cond.code y bytes maxL ret).before a0 Z = true) (wz : (Cond.initialized y.cls).before a0 Z = true) (hM : o_C l y bytes maxL ret rm Z h as' Q)
    {g : JFrame} (hg : g.method = m) (hsize : g.locals.size = c.maxLocals) (hmr : g.monitorRoom = 0) {argsL rest : List Value} (has : (Value.ref a :: argsL).toArray = as') (hlen : ∀ sig, parseMethodDescriptor y.desc = some sig → argsL.length = sig.parameters.length) (hstack : g.stack = argsL.reverse ++ .ref a :: rest) (hd : decode c.code g.pc = .ok (.invokevirtual index, 3))
    (hf : rm.frames + 1 ≤ R.frames) (hl : (rest.map fun v => v.category).sum + (maxL + 11) + rm.locals ≤ R.locals) (hc : cells + rm.cells ≤ R.cells) (hs : slots + rm.slots ≤ R.slots) :
    ∃ v T' L, Q v T'.heap L ∧ Stand p l e R s m args below meth c T' (locs ++ L) (cells + rm.cells) (slots + rm.slots) ∧ ∀ target, Steps p.tables e below (T'.setTop { g with pc := g.pc + 3, stack := v.toList ++ rest }) target → Steps p.tables e below (T.setTop g) target := by
  obtain ⟨cq, q1, q2⟩ := E.cell
  have ws := o_selP wi w2 w3 hy
  obtain ⟨v, _, ⟨T1, L1, k1, n1⟩, -, X1, ⟨Lc, hQ, l1, y1, z1⟩, st⟩ := X.privateBack hx (y := y) hown (mvT hZ w1) (mvT hZ w2) (mvT hZ ws) (Cond.privateMethod_at (mvP hZ w3 (args := #[]))) (mvT hZ wc) hy (backOf (W := (rest.map fun v => v.category).sum) hM hZ wc wz hf hl) hg hsize (Steps.refl _) (a := a) (by rw [eT]; exact q1) q2 (argsL := argsL) (rest := rest) hlen hstack (by rw [hmr]; omega) hd (fun _ _ => ⟨has, eT, hc, hs⟩)
  dsimp only [Pt.U, Pt.locs, Pt.cells, Pt.slots] at X1 l1 y1 z1 st hQ
  subst l1 y1 z1
  exact ⟨v, T1, Lc, hQ, X1, fun _ k => st.trans k⟩
theorem o_backF {y : MethodName} {bytes : ByteArray} {maxL : Nat} {ret : Option FieldType} {rm : Room} {W : Nat} {as' : Array Value} (hM : o_C l y bytes maxL ret rm Z h as' Q) (hZ : Z.Warmed39 s.vm) (wc : (Cond.code y bytes maxL ret).before a0 Z = true) (wz : (Cond.initialized y.cls).before a0 Z = true) (hf : rm.frames + 1 ≤ R.frames) (hl : W + (maxL + 11) + rm.locals ≤ R.locals) :
    Back l R p e below s args y 5 W (fun A a => a = as' ∧ A.U.heap = h ∧ A.cells + rm.cells ≤ R.cells ∧ A.slots + rm.slots ≤ R.slots) (fun A _ v B => ∃ L, Q v B.U.heap L ∧ B.locs = A.locs ++ L ∧ B.cells = A.cells + rm.cells ∧ B.slots = A.slots + rm.slots) := backOf (W := W) hM hZ wc wz hf hl
theorem o_callF (X : Stand p l e R s m args below meth c T locs cells slots) (hx : p.tables.exec = Jvm.exec) (hZ : Z.Warmed39 s.vm) (eT : T.heap = h) {own K : String} {index count : Nat} {xi y : MethodName} (hown : s.vm.findClass own = some m.cls) (w1 : (Cond.methodLink own index xi).before a0 Z = true) (w2 : (Cond.declares xi).before a0 Z = true) (w3 : (Cond.interfaceMethod xi.cls xi.cls xi.name xi.desc).before a0 Z = true) (w4 : (Cond.selects K xi y).before a0 Z = true) (w5 : (Cond.instanceMethod y).before a0 Z = true) (w6 : (Cond.publicMethod y).before a0 Z = true) (w7 : (Cond.unhidden K xi.name xi.desc).before a0 Z = true) (w8 : (Cond.castable K xi.cls).before a0 Z = true) (hfa : ((Cond.interfaceMethod xi.cls xi.cls xi.name xi.desc).onTables && (Cond.interfaceMethod xi.cls xi.cls xi.name xi.desc).keepsFace) = true)
    (hy : xi.cls ≠ "java/lang/invoke/MethodHandle" ∧ xi.cls ≠ "java/lang/invoke/VarHandle") {b : Addr} (E : Exa Z h b K) {bytes : ByteArray} {maxL : Nat} {ret : Option FieldType} {rm : Room} {as' : Array Value} (wc : (Cond.code y bytes maxL ret).before a0 Z = true) (wz : (Cond.initialized y.cls).before a0 Z = true) (hM : o_C l y bytes maxL ret rm Z h as' Q)
    {g : JFrame} (hg : g.method = m) (hsize : g.locals.size = c.maxLocals) (hmr : g.monitorRoom = 0) {argsL rest : List Value} (has : (Value.ref b :: argsL).toArray = as') (hlen : ∀ sig, parseMethodDescriptor xi.desc = some sig → argsL.length = sig.parameters.length) (hstack : g.stack = argsL.reverse ++ .ref b :: rest) (hd : decode c.code g.pc = .ok (.invokeinterface index count, 5))
    (hf : rm.frames + 1 ≤ R.frames) (hl : (rest.map fun v => v.category).sum + (maxL + 11) + rm.locals ≤ R.locals) (hc : cells + rm.cells ≤ R.cells) (hs : slots + rm.slots ≤ R.slots) :
    ∃ v T' L, Q v T'.heap L ∧ Stand p l e R s m args below meth c T' (locs ++ L) (cells + rm.cells) (slots + rm.slots) ∧ ∀ target, Steps p.tables e below (T'.setTop { g with pc := g.pc + 5, stack := v.toList ++ rest }) target → Steps p.tables e below (T.setTop g) target := by
  obtain ⟨cq, kq, q1, q2, q3⟩ := isOf hZ eT E
  obtain ⟨v, _, ⟨T1, L1, k1, n1⟩, -, X1, ⟨Lc, hQ, l1, y1, z1⟩, st⟩ := X.interfaceBack hx (xi := xi) (y := y) hown (mvT hZ w1) (mvT hZ w2) (mvT hZ w3 hfa) (mvT hZ w4) (mvT hZ w5) (mvT hZ w6) (mvT hZ w7) (mvT hZ w8) hy (o_backF (W := (rest.map fun v => v.category).sum) hM hZ wc wz hf hl) q1 q2 q3 hg hsize (Steps.refl _) (argsL := argsL) (rest := rest) hlen hstack (by rw [hmr]; omega) hd (fun _ _ => ⟨has, eT, hc, hs⟩)
  dsimp only [Pt.U, Pt.locs, Pt.cells, Pt.slots] at X1 l1 y1 z1 st hQ
  subst l1 y1 z1
  exact ⟨v, T1, Lc, hQ, X1, fun _ k => st.trans k⟩
/-! from the case's words -/
theorem o_eqR {args : Array Value} {first s : State} {o : Option Outcome} {idx : List Nat} {a b : Term} {x : Addr} (h : (Cond.eq a b).value args first o s idx = some true) (hb : b.eval args first o idx s = some (.ref x)) : a.eval args first o idx s = some (.ref x) := by
  obtain ⟨u, w, h1, h2, h3, h4⟩ := cmp_v (Or.inl h)
  cases hb.symm.trans h2
  rcases ref_cases (show u.isRef = true by cases u <;> simp [Kin, Value.isRef] at h4 ⊢) with rfl | ⟨z, rfl⟩
  · exact absurd (gotT (eq_R h1 h2 rfl rfl) h) nofun
  · rw [h1, gotT (eq_R h1 h2 rfl rfl) h]
theorem o_eqI {args : Array Value} {first s : State} {o : Option Outcome} {idx : List Nat} {a : Term} {n : Int32} (h : (Cond.eq a (.int n)).value args first o s idx = some true) : a.eval args first o idx s = some (.int n) := by
  obtain ⟨u, w, h1, h2, h3, h4⟩ := cmp_v (Or.inl h)
  cases (show some (Value.int n) = some w from h2)
  obtain ⟨z, rfl⟩ : ∃ z, u = .int z := h4
  have q : (Cond.eq a (.int n)).value args first o s idx = some (decide (z = n)) := by simp [Cond.value, h1, Term.eval]
  rw [h1, gotT q h]
theorem o_irr (x : Int32) : ¬ x < x := by rw [Int32.lt_iff_toInt_lt]; omega
theorem o_irrL (x : Int64) : ¬ x < x := by rw [Int64.lt_iff_toInt_lt]; omega
end Own
end Jvm.Pilot.@@N@@
namespace Jvm.Pilot.@@N@@
open Jvm Jvm.ClassFile Sem Op Lib Jvm.Free Jvm.Stand Jvm.LawKit Jvm.RoadKit Bundle Jvm.Pilot.@@N@@.Jvm.D
theorem o_extE {h0 h h' : Heap} (E : Ext h0 h) (E' : Ext h h') : Ext h0 h' := ⟨Nat.le_trans E.1 E'.1, fun a c q => E'.2 a c (E.2 a c q)⟩
theorem o_extW {h0 h h' : Heap} {a : Addr} {sl : Nat} {v : Value} (E : Ext h0 h) (W : Wr h h' a sl v) (q : h0.size ≤ a) : Ext h0 h' := by
  refine ⟨Nat.le_trans E.1 (Keep.of_wr W).1, fun b c hb => ?_⟩
  obtain ⟨c', h1, -, -, -, h5, -, -⟩ := wr_at W (E.2 b c hb)
  have ne : b ≠ a := fun e => absurd (Array.getElem?_eq_some_iff.mp hb).1 (Nat.not_lt.mpr (e ▸ q))
  rw [← h5 ne]; exact h1
theorem o_ext0 (h : Heap) : Ext h h := ⟨Nat.le_refl _, fun _ _ q => q⟩
theorem o_extK {h0 h h' : Heap} {ws : List Addr} (E : Ext h0 h) (K : Keep h h' ws) (q : ∀ x ∈ ws, h0.size ≤ x) : Ext h0 h' :=
  ⟨Nat.le_trans E.1 K.1, fun a c r => K.2.1 a c (E.2 a c r) fun z => absurd (Array.getElem?_eq_some_iff.mp r).1 (Nat.not_lt.mpr (q a z))⟩
/-- hidden from the arithmetic -/
def o_ne (a b : Addr) : Prop := a ≠ b
/-! own: arrays of longs and of ints whose content is a function -/
def o_AR (Z : State) (h : Heap) (a : Addr) (ty : FieldType) (n : Int32) (F : Nat → Value) (d : Value) : Prop := ∃ k, Arv Z h a k ty n ((List.range n.toNatClampNeg).map F) d
abbrev o_LA (Z : State) (h : Heap) (a : Addr) (n : Int32) (f : Nat → Int64) : Prop := o_AR Z h a .long n (fun i => .long (f i)) (.long 0)
abbrev o_IA (Z : State) (h : Heap) (a : Addr) (n : Int32) (f : Nat → Int32) : Prop := o_AR Z h a .int n (fun i => .int (f i)) (.int 0)
section OwnArr
variable {p : Program} {l : Launch} {e : Env} {R : Room} {s : State} {m : MethodId} {args : Array Value} {below : List Frame} {meth : Method} {c : Code} {T : State} {locs : List Loc} {cells slots : Nat} {Z : State} {a0 : Array Value} {h h' : Heap} {a b : Addr} {ty : FieldType} {n : Int32} {F : Nat → Value} {d v : Value} {sl : Nat} {ws : List Addr}
theorem o_AR.lt (A : o_AR Z h a ty n F d) : a < h.size := by obtain ⟨k, A⟩ := A; exact A.lt
theorem o_AR.ext (A : o_AR Z h a ty n F d) (E : Ext h h') : o_AR Z h' a ty n F d := by obtain ⟨k, A⟩ := A; exact ⟨k, A.ext E⟩
theorem o_AR.other (A : o_AR Z h b ty n F d) (W : Wr h h' a sl v) (q : b ≠ a) : o_AR Z h' b ty n F d := by obtain ⟨k, A⟩ := A; exact ⟨k, A.other W q⟩
theorem o_AR.keep (A : o_AR Z h a ty n F d) (K : Keep h h' ws) (q : a ∉ ws) : o_AR Z h' a ty n F d := by obtain ⟨k, A⟩ := A; exact ⟨k, A.keep K q⟩
theorem o_getD {n i : Nat} (F : Nat → Value) (d : Value) : ((List.range n).map F).getD i d = if i < n then F i else d := by
  by_cases q : i < n
  · simp [List.getD_eq_getElem?_getD, q]
  · simp [List.getD_eq_getElem?_getD, q]
theorem o_AR.congr {F' : Nat → Value} (A : o_AR Z h a ty n F d) (q : ∀ i, i < n.toNatClampNeg → F i = F' i) : o_AR Z h a ty n F' d := by
  obtain ⟨k, A⟩ := A
  refine ⟨k, A.pad fun i => ?_⟩
  rw [o_getD, o_getD]
  by_cases z : i < n.toNatClampNeg
  · rw [if_pos z, if_pos z, q i z]
  · rw [if_neg z, if_neg z]
theorem o_AR.ne {ty' : FieldType} {n' : Int32} {F' : Nat → Value} {d' : Value} (A : o_AR Z h a ty n F d) (B : o_AR Z h b ty' n' F' d') (q : ty ≠ ty') : a ≠ b := fun e => by
  subst e
  obtain ⟨k, c, A, -⟩ := A
  obtain ⟨k', c', B, -⟩ := B
  cases A.1.symm.trans B.1
  obtain ⟨-, kk, h1, cp, h2⟩ := A.2.1
  obtain ⟨-, kk', g1, cp', g2⟩ := B.2.1
  cases h1.symm.trans g1
  rw [h2] at g2
  cases g2
  exact q rfl
theorem o_AR.neExa {C : String} {kk : Nat} (A : o_AR Z h b ty n F d) (E : Exa Z h a C) (w : (Cond.instantiable C kk).before a0 Z = true) : a ≠ b := by
  obtain ⟨k, A⟩ := A
  exact E.neArv A w
theorem o_AR.nn (A : o_AR Z h a ty n F d) : ¬ n < 0 := by obtain ⟨k, c, A, -, -, q, -⟩ := A; exact q
theorem o_in {j : Int32} (q : ¬ j < 0 ∧ j < n) : j.toNatClampNeg < n.toNatClampNeg := by
  obtain ⟨q1, q2⟩ := q
  rw [Int32.lt_iff_toInt_lt] at q1 q2
  have : (0 : Int32).toInt = 0 := rfl
  simp only [Int32.toNatClampNeg]; omega
theorem o_ldJ {f : Nat → Int64} (X : Stand p l e R s m args below meth c T locs cells slots) (hx : p.tables.exec = Jvm.exec) (hZ : Z.Warmed39 s.vm) (eT : T.heap = h) (A : o_LA Z h a n f) {j : Int32} (hj : ¬ j < 0 ∧ j < n) {g : JFrame} (hg : g.method = m) {rest : List Value} (hs : g.stack = .int j :: .ref a :: rest) (hd : decode c.code g.pc = .ok (.laload, 1)) :
    ∀ target, Steps p.tables e below (T.setTop { g with pc := g.pc + 1, stack := .long (f j.toNatClampNeg) :: rest }) target → Steps p.tables e below (T.setTop g) target := fun target k => by
  obtain ⟨_, cl, Ar, q, S, N, H, G⟩ := A
  have hin := inb_of S hj
  exact X.laload hx (j := j) (v := .long (f j.toNatClampNeg)) (by rw [eT]; exact Ar.1) (State.isArrayOf_alike hZ.alike Ar.2.1) Ar.2.2 hin (Has.at H hin (by rw [o_getD, if_pos (o_in hj)])) hg hs hd _ k
theorem o_ldI {f : Nat → Int32} (X : Stand p l e R s m args below meth c T locs cells slots) (hx : p.tables.exec = Jvm.exec) (hZ : Z.Warmed39 s.vm) (eT : T.heap = h) (A : o_IA Z h a n f) {j : Int32} (hj : ¬ j < 0 ∧ j < n) {g : JFrame} (hg : g.method = m) {rest : List Value} (hs : g.stack = .int j :: .ref a :: rest) (hd : decode c.code g.pc = .ok (.iaload, 1)) :
    ∀ target, Steps p.tables e below (T.setTop { g with pc := g.pc + 1, stack := .int (f j.toNatClampNeg) :: rest }) target → Steps p.tables e below (T.setTop g) target := fun target k => by
  obtain ⟨_, cl, Ar, q, S, N, H, G⟩ := A
  have hin := inb_of S hj
  exact X.iaload hx (j := j) (v := .int (f j.toNatClampNeg)) (by rw [eT]; exact Ar.1) (State.isArrayOf_alike hZ.alike Ar.2.1) Ar.2.2 hin (Has.at H hin (by rw [o_getD, if_pos (o_in hj)])) hg hs hd _ k
theorem o_len (X : Stand p l e R s m args below meth c T locs cells slots) (hx : p.tables.exec = Jvm.exec) (hZ : Z.Warmed39 s.vm) (eT : T.heap = h) (A : o_AR Z h a ty n F d) {g : JFrame} (hg : g.method = m) {rest : List Value} (hs : g.stack = .ref a :: rest) (hd : decode c.code g.pc = .ok (.arraylength, 1)) :
    ∀ target, Steps p.tables e below (T.setTop { g with pc := g.pc + 1, stack := .int n :: rest }) target → Steps p.tables e below (T.setTop g) target := fun target k => by
  obtain ⟨_, cl, Ar, q, S, N, H, G⟩ := A
  refine X.arraylength hx (by rw [eT]; exact Ar.1) (State.isArrayOf_alike hZ.alike Ar.2.1) hg hs hd _ ?_
  rw [len_of S N]; exact k
theorem o_setF {j : Int32} {v : Value} (A : o_AR Z h a ty n F d) (hj : ¬ j < 0 ∧ j < n) (hv : fits ty v = true) (W : Wr h h' a j.toNatClampNeg v) : o_AR Z h' a ty n (fun i => if i = j.toNatClampNeg then v else F i) d := by
  obtain ⟨k, cl, Ar, q, S, N, H, G⟩ := A
  refine ⟨k, (Arv.set Ar q S N H G hv W j.toNatClampNeg rfl (by simpa using o_in hj)).pad fun i => ?_⟩
  rw [o_getD]
  by_cases z : i < n.toNatClampNeg
  · rw [if_pos z]
    by_cases y : i = j.toNatClampNeg
    · subst y; simp [List.getD_eq_getElem?_getD, z]
    · rw [if_neg y, List.getD_eq_getElem?_getD, List.getElem?_set_ne (Ne.symm y)]; simp [z]
  · rw [if_neg z]; simp [List.getD_eq_getElem?_getD, z]
theorem o_stJ {f : Nat → Int64} {x : Int64} (X : Stand p l e R s m args below meth c T locs cells slots) (hx : p.tables.exec = Jvm.exec) (hZ : Z.Warmed39 s.vm) (eT : T.heap = h) (A : o_LA Z h a n f) {j : Int32} (hj : ¬ j < 0 ∧ j < n) {g : JFrame} (hg : g.method = m) {rest : List Value} (hs : g.stack = .long x :: .int j :: .ref a :: rest) (hd : decode c.code g.pc = .ok (.lastore, 1)) :
    ∃ T' h', Stand p l e R s m args below meth c T' (locs ++ [⟨a, j.toNatClampNeg⟩]) cells slots ∧ T'.heap = h' ∧ Wr h h' a j.toNatClampNeg (.long x) ∧ o_LA Z h' a n (fun i => if i = j.toNatClampNeg then x else f i) ∧ ∀ target, Steps p.tables e below (T'.setTop { g with pc := g.pc + 1, stack := rest }) target → Steps p.tables e below (T.setTop g) target := by
  have A' := A
  obtain ⟨_, cl, Ar, q, S, N, H, G⟩ := A'
  obtain ⟨T', h', X', e', W, st⟩ := stJ X hx hZ eT Ar (j := j) (inb_of S hj) hg hs hd
  exact ⟨T', h', X', e', W, (o_setF A hj rfl W).congr fun i _ => by by_cases y : i = j.toNatClampNeg <;> simp [y], st⟩
theorem o_stI {f : Nat → Int32} {x : Int32} (X : Stand p l e R s m args below meth c T locs cells slots) (hx : p.tables.exec = Jvm.exec) (hZ : Z.Warmed39 s.vm) (eT : T.heap = h) (A : o_IA Z h a n f) {j : Int32} (hj : ¬ j < 0 ∧ j < n) {g : JFrame} (hg : g.method = m) {rest : List Value} (hs : g.stack = .int x :: .int j :: .ref a :: rest) (hd : decode c.code g.pc = .ok (.iastore, 1)) :
    ∃ T' h', Stand p l e R s m args below meth c T' (locs ++ [⟨a, j.toNatClampNeg⟩]) cells slots ∧ T'.heap = h' ∧ Wr h h' a j.toNatClampNeg (.int x) ∧ o_IA Z h' a n (fun i => if i = j.toNatClampNeg then x else f i) ∧ ∀ target, Steps p.tables e below (T'.setTop { g with pc := g.pc + 1, stack := rest }) target → Steps p.tables e below (T.setTop g) target := by
  have A' := A
  obtain ⟨_, cl, Ar, q, S, N, H, G⟩ := A'
  obtain ⟨T', h', X', e', W, st⟩ := stI X hx hZ eT Ar (j := j) (inb_of S hj) hg hs hd
  exact ⟨T', h', X', e', W, (o_setF A hj rfl W).congr fun i _ => by by_cases y : i = j.toNatClampNeg <;> simp [y], st⟩
theorem o_new0 {k : ClassId} {d : Value} (A : Arr Z h a (newA k ty n) ty) (q : ¬ n < 0) (hd : defaultValue ty = d) : o_AR Z h a ty n (fun _ => d) d := by
  subst hd
  refine ⟨k, (Arv.new A q).pad fun i => ?_⟩
  rw [o_getD]; by_cases z : i < n.toNatClampNeg <;> simp [z]
theorem o_cp {ty : FieldType} {n' sp dp nn : Int32} {F G : Nat → Value} {dF dG : Value} (X : Stand p l e R s m args below meth c T locs cells slots) (hx : p.tables.exec = Jvm.exec) (hZ : Z.Warmed39 s.vm) {own : String} {index : Nat} (hown : s.vm.findClass own = some m.cls)
    (w1 : (Cond.methodLink own index Jvm.Stand.acN).before a0 Z = true) (w2 : (Cond.native Jvm.Stand.acN).before a0 Z = true) (w3 : (Cond.static Jvm.Stand.acN).before a0 Z = true) (w4 : (Cond.initialized "java/lang/System").before a0 Z = true) (eT : T.heap = h)
    (A : o_AR Z h a ty n F dF) (B : o_AR Z h b ty n' G dG) (hty : refKind ty = false) (h1 : 0 ≤ sp.toInt) (h2 : 0 ≤ dp.toInt) (h3 : 0 ≤ nn.toInt) (h4 : sp.toInt + nn.toInt ≤ n.toInt) (h5 : dp.toInt + nn.toInt ≤ n'.toInt) {n0 : Nat} (N : Fr n0 locs) (ge : n0 ≤ b)
    {g : JFrame} (hg : g.method = m) (hsize : g.locals.size = c.maxLocals) (hmr : g.monitorRoom = 0) {rest : List Value} (hs : g.stack = .int nn :: .int dp :: .ref b :: .int sp :: .ref a :: rest) (hd : decode c.code g.pc = .ok (.invokestatic index, 3))
    (hf : 1 ≤ R.frames) (hlo : (rest.map fun v => v.category).sum + (nativeFrameWords "java/lang/System" "arraycopy" 5 + 11) ≤ R.locals) :
    ∃ T' h' L, Stand p l e R s m args below meth c T' L cells slots ∧ T'.heap = h' ∧ Fr n0 L ∧ Keep h h' [b] ∧ o_AR Z h' b ty n' (fun i => if dp.toNatClampNeg ≤ i ∧ i < dp.toNatClampNeg + nn.toNatClampNeg then F (sp.toNatClampNeg + (i - dp.toNatClampNeg)) else G i) dG ∧
      ∀ target, Steps p.tables e below (T'.setTop { g with pc := g.pc + 3, stack := rest }) target → Steps p.tables e below (T.setTop g) target := by
  obtain ⟨k, A⟩ := A
  obtain ⟨k', B⟩ := B
  have z : ∀ {x : Int32}, 0 ≤ x.toInt → ¬ x < 0 ∧ (x.toNatClampNeg : Int) = x.toInt := fun {x} q => by
    rw [Int32.lt_iff_toInt_lt]; have : (0 : Int32).toInt = 0 := rfl
    simp only [Int32.toNatClampNeg]; omega
  have hn := A
  obtain ⟨_, _, _, _, zn, _, _⟩ := hn
  have hn' := B
  obtain ⟨_, _, _, _, zn', _, _⟩ := hn'
  have en : (n.toNatClampNeg : Int) = n.toInt := (z (by rw [Int32.lt_iff_toInt_lt] at zn; have : (0 : Int32).toInt = 0 := rfl; omega)).2
  have en' : (n'.toNatClampNeg : Int) = n'.toInt := (z (by rw [Int32.lt_iff_toInt_lt] at zn'; have : (0 : Int32).toInt = 0 := rfl; omega)).2
  have q1 := z h1
  have q2 := z h2
  have q3 := z h3
  obtain ⟨T', h', L, X', e', N', K, A', st⟩ := cpA X hx hZ hown w1 w2 w3 w4 eT A B (Or.inl ⟨rfl, hty⟩) q1.1 q2.1 q3.1 (by omega) (by omega) rfl (by simp; omega) N ge hg hsize hs hd hf (W := (rest.map fun v => v.category).sum) (by rw [hmr]; omega) hlo
  refine ⟨T', h', L, X', e', N', K, ⟨k', A'.pad fun i => ?_⟩, st⟩
  rw [o_getD]
  simp only [List.getD_eq_getElem?_getD]
  have lt : (((List.range n'.toNatClampNeg).map G).take dp.toNatClampNeg).length = dp.toNatClampNeg := by simp; omega
  by_cases c1 : i < dp.toNatClampNeg
  · rw [List.append_assoc, List.getElem?_append_left (by omega), List.getElem?_take_of_lt c1, if_pos (show i < n'.toNatClampNeg by omega), if_neg (by omega)]
    simp [show i < n'.toNatClampNeg by omega]
  · by_cases c2 : i < dp.toNatClampNeg + nn.toNatClampNeg
    · rw [List.getElem?_append_left (by simp; omega), List.getElem?_append_right (by omega), lt, if_pos (show i < n'.toNatClampNeg by omega), if_pos ⟨by omega, c2⟩]
      simp [show i - dp.toNatClampNeg < nn.toNatClampNeg by omega, show sp.toNatClampNeg + (i - dp.toNatClampNeg) < n.toNatClampNeg by omega]
    · rw [List.getElem?_append_right (by simp; omega)]
      by_cases c3 : i < n'.toNatClampNeg
      · rw [if_pos c3, if_neg (by omega)]
        simp [show min dp.toNatClampNeg n'.toNatClampNeg = dp.toNatClampNeg by omega, show dp.toNatClampNeg + nn.toNatClampNeg + (i - (dp.toNatClampNeg + nn.toNatClampNeg)) = i by omega, c3]
      · rw [if_neg c3]
        simp [show min dp.toNatClampNeg n'.toNatClampNeg = dp.toNatClampNeg by omega, show dp.toNatClampNeg + nn.toNatClampNeg + (i - (dp.toNatClampNeg + nn.toNatClampNeg)) = i by omega, c3]
end OwnArr
theorem o_nat (x : Int32) (h : 0 ≤ x.toInt) : (x.toNatClampNeg : Int) = x.toInt := by
  simp only [Int32.toNatClampNeg]; omega
theorem o_maxL (x : Int64) (h : ¬ x < (9223372036854775807 : Int64)) : x = (9223372036854775807 : Int64) := by
  have e : ((9223372036854775807 : Int64)).toInt = 9223372036854775807 := by decide
  have r := rng64 x
  rw [Int64.lt_iff_toInt_lt, e] at h
  exact Int64.toInt_inj.mp (by rw [e]; omega)
theorem o_ins {A TL : Nat} {fs f2 : Nat → Int32} {xs g2 : Nat → Int64} {time : Int64} (he : A < TL)
    (F : ∀ i, f2 i = if i = A + 1 then fs A else if A + 2 ≤ i ∧ i < TL + 1 then fs (i - 1) else fs i) (G : ∀ i, g2 i = if i = A + 1 then time else if A + 2 ≤ i ∧ i < TL + 1 then xs (i - 1) else xs i)
    (hl : xs (TL - 1) = (9223372036854775807 : Int64) → ¬ time < xs 0 → A ≠ TL - 1) :
    (∀ i, i < TL + 1 → ∃ k, k < TL ∧ f2 i = fs k) ∧ g2 0 = xs 0 ∧ (xs (TL - 1) = (9223372036854775807 : Int64) → ¬ time < xs 0 → g2 (TL + 1 - 1) = (9223372036854775807 : Int64) ∧ f2 (TL + 1 - 1) = fs (TL - 1) ∧ ∀ i, i + 1 < TL + 1 → ∃ k, k + 1 < TL ∧ f2 i = fs k) := by
  refine ⟨fun i hi => ?_, ?_, fun hm hz => ?_⟩
  · by_cases z1 : i = A + 1
    · exact ⟨A, he, by rw [F, if_pos z1]⟩
    · by_cases z2 : A + 2 ≤ i ∧ i < TL + 1
      · exact ⟨i - 1, by omega, by rw [F, if_neg z1, if_pos z2]⟩
      · exact ⟨i, by omega, by rw [F, if_neg z1, if_neg z2]⟩
  · rw [G, if_neg (by omega), if_neg (by omega)]
  · have h1 := hl hm hz
    refine ⟨?_, ?_, fun i hi => ?_⟩
    · rw [G, if_neg (by omega), if_pos (by omega), show TL + 1 - 1 - 1 = TL - 1 by omega]; exact hm
    · rw [F, if_neg (by omega), if_pos (by omega), show TL + 1 - 1 - 1 = TL - 1 by omega]
    · by_cases z1 : i = A + 1
      · exact ⟨A, by omega, by rw [F, if_pos z1]⟩
      · by_cases z2 : A + 2 ≤ i ∧ i < TL + 1
        · exact ⟨i - 1, by omega, by rw [F, if_neg z1, if_pos z2]⟩
        · exact ⟨i, by omega, by rw [F, if_neg z1, if_neg z2]⟩
theorem o_del {A TL : Nat} {fs f2 : Nat → Int32} {xs g2 : Nat → Int64} (h1 : 1 ≤ A) (he : A < TL) (hq : fs A = fs (A - 1))
    (F : ∀ i, f2 i = if A ≤ i ∧ i + 1 < TL then fs (i + 1) else fs i) (G : ∀ i, g2 i = if A ≤ i ∧ i + 1 < TL then xs (i + 1) else xs i) :
    (∀ i, i < TL - 1 → ∃ k, k < TL ∧ f2 i = fs k) ∧ g2 0 = xs 0 ∧ (xs (TL - 1) = (9223372036854775807 : Int64) → (∀ k, k + 1 < TL → fs k ≠ fs (TL - 1)) → g2 (TL - 1 - 1) = (9223372036854775807 : Int64) ∧ f2 (TL - 1 - 1) = fs (TL - 1) ∧ ∀ i, i + 1 < TL - 1 → ∃ k, k + 1 < TL ∧ f2 i = fs k) := by
  refine ⟨fun i hi => ?_, ?_, fun hm hz => ?_⟩
  · by_cases z : A ≤ i ∧ i + 1 < TL
    · exact ⟨i + 1, z.2, by rw [F, if_pos z]⟩
    · exact ⟨i, by omega, by rw [F, if_neg z]⟩
  · rw [G, if_neg (by omega)]
  · have ha : A ≠ TL - 1 := fun q => hz (A - 1) (by omega) (by rw [← hq, q])
    refine ⟨?_, ?_, fun i hi => ?_⟩
    · rw [G, if_pos (by omega), show TL - 1 - 1 + 1 = TL - 1 by omega]; exact hm
    · rw [F, if_pos (by omega), show TL - 1 - 1 + 1 = TL - 1 by omega]
    · by_cases z : A ≤ i ∧ i + 1 < TL
      · exact ⟨i + 1, by omega, by rw [F, if_pos z]⟩
      · exact ⟨i, by omega, by rw [F, if_neg z]⟩
def o_put (rs : Nat → Int64) (c : Nat) (s e d : Int64) : Nat → Int64 := fun i => if i = 3 * (c % 8) + 2 then d else if i = 3 * (c % 8) + 1 then e else if i = 3 * (c % 8) then s else rs i
theorem o_lrem8 (x : Int64) (h : 0 ≤ x.toInt) : (x - (x / (8 : Int64)) * (8 : Int64)).toInt = x.toInt % 8 := (c_lrem x (8 : Int64) 8 (by decide)).1 h
theorem o_kept (ch : Int64) (cn : Nat) (hc : ch.toInt = (cn : Int)) (h2 : cn ≤ 100) : ((3 : Int32) * ((ch + (1 : Int64)) - ((ch + (1 : Int64)) / (8 : Int64)) * (8 : Int64)).toInt32).toInt = ((3 * ((cn + 1) % 8) : Nat) : Int) := by
  have e0 : ((1 : Int64)).toInt = 1 := by decide
  have e1 := c_ladd ch (1 : Int64)
  have r1 := rng64 (ch + (1 : Int64))
  have e2 : (ch + (1 : Int64)).toInt = (cn : Int) + 1 := by omega
  have e3 := o_lrem8 (ch + (1 : Int64)) (by omega)
  have e4 := c_l2i ((ch + (1 : Int64)) - ((ch + (1 : Int64)) / (8 : Int64)) * (8 : Int64))
  have r4 := rng32 (((ch + (1 : Int64)) - ((ch + (1 : Int64)) / (8 : Int64)) * (8 : Int64)).toInt32)
  have e5 := c_imul (3 : Int32) (((ch + (1 : Int64)) - ((ch + (1 : Int64)) / (8 : Int64)) * (8 : Int64)).toInt32)
  have r5 := rng32 ((3 : Int32) * (((ch + (1 : Int64)) - ((ch + (1 : Int64)) / (8 : Int64)) * (8 : Int64)).toInt32))
  have e6 : ((3 : Int32)).toInt = 3 := by decide
  rw [e6] at e5
  rw [e3, e2] at e4
  generalize ((ch + (1 : Int64)) - ((ch + (1 : Int64)) / (8 : Int64)) * (8 : Int64)).toInt32 = y at *
  have e7 : ((cn : Int) + 1) % 8 = (((cn + 1) % 8 : Nat) : Int) := by rw [Int.natCast_emod]; rfl
  rw [e7] at e4
  have e8 : (cn + 1) % 8 < 8 := Nat.mod_lt _ (by decide)
  generalize (cn + 1) % 8 = q at *
  clear e3 e1 r1 e2 hc h2 e7
  omega
/-! the counts: all in lo..hi, but the last may be 16 -/
def o_B (lo hi : Int) (TL : Nat) (fs : Nat → Int32) : Prop := ∀ i, i < TL → (lo ≤ (fs i).toInt ∧ (fs i).toInt ≤ hi) ∨ (i + 1 = TL ∧ (fs i).toInt = 16)
def o_S (lo hi : Int) (TL : Nat) (xs : Nat → Int64) (fs : Nat → Int32) : Prop := (hi = 16 ∧ lo ≤ 16 ∧ o_B lo 16 TL fs) ∨ (hi ≤ 15 ∧ o_B lo hi TL fs ∧ xs (TL - 1) = (9223372036854775807 : Int64) ∧ (fs (TL - 1)).toInt = 16)
theorem o_B16 {lo : Int} {TL TL' : Nat} {fs fs' : Nat → Int32} (h : lo ≤ 16) (B : o_B lo 16 TL fs) (q : ∀ i, i < TL' → ∃ k, k < TL ∧ fs' i = fs k) : o_B lo 16 TL' fs' := fun i hi => by
  obtain ⟨k, h1, h2⟩ := q i hi
  rw [h2]
  rcases B k h1 with b | b
  · exact Or.inl b
  · exact Or.inl ⟨by omega, by omega⟩
theorem o_Blast {lo hi : Int} {TL TL' : Nat} {fs fs' : Nat → Int32} (h1 : 1 ≤ TL) (B : o_B lo hi TL fs) (q1 : fs' (TL' - 1) = fs (TL - 1)) (q2 : ∀ i, i + 1 < TL' → ∃ k, k + 1 < TL ∧ fs' i = fs k) : o_B lo hi TL' fs' := fun i hi => by
  rcases Nat.lt_or_ge (i + 1) TL' with z | z
  · obtain ⟨k, k1, k2⟩ := q2 i z
    rw [k2]
    rcases B k (by omega) with b | b
    · exact Or.inl b
    · exact absurd b.1 (by omega)
  · have e : i = TL' - 1 := by omega
    rw [e, q1]
    rcases B (TL - 1) (by omega) with b | b
    · exact Or.inl b
    · exact Or.inr ⟨by omega, b.2⟩
theorem o_Ssplit {lo hi : Int} {TL TL' : Nat} {xs xs' : Nat → Int64} {fs fs' : Nat → Int32} {time : Int64} (h1 : 1 ≤ TL) (S : o_S lo hi TL xs fs) (hz : hi ≤ 15 → ¬ time < xs 0) (pe : ∀ i, i < TL' → ∃ k, k < TL ∧ fs' i = fs k)
    (pg : xs (TL - 1) = (9223372036854775807 : Int64) → ¬ time < xs 0 → xs' (TL' - 1) = (9223372036854775807 : Int64) ∧ fs' (TL' - 1) = fs (TL - 1) ∧ ∀ i, i + 1 < TL' → ∃ k, k + 1 < TL ∧ fs' i = fs k) : o_S lo hi TL' xs' fs' := by
  rcases S with ⟨a, b, c⟩ | ⟨a, b, c, d⟩
  · exact Or.inl ⟨a, b, o_B16 b c pe⟩
  · obtain ⟨q1, q2, q3⟩ := pg c (hz a)
    exact Or.inr ⟨a, o_Blast h1 b q2 q3, q1, by rw [q2]; exact d⟩
theorem o_Smerge {lo hi : Int} {TL TL' : Nat} {xs xs' : Nat → Int64} {fs fs' : Nat → Int32} (h1 : 1 ≤ TL) (S : o_S lo hi TL xs fs) (mc : ∀ i, i < TL' → ∃ k, k < TL ∧ fs' i = fs k)
    (me : xs (TL - 1) = (9223372036854775807 : Int64) → (∀ k, k + 1 < TL → fs k ≠ fs (TL - 1)) → xs' (TL' - 1) = (9223372036854775807 : Int64) ∧ fs' (TL' - 1) = fs (TL - 1) ∧ ∀ i, i + 1 < TL' → ∃ k, k + 1 < TL ∧ fs' i = fs k) : o_S lo hi TL' xs' fs' := by
  rcases S with ⟨a, b, c⟩ | ⟨a, b, c, d⟩
  · exact Or.inl ⟨a, b, o_B16 b c mc⟩
  · obtain ⟨q1, q2, q3⟩ := me c (fun k hk q => by
      rcases b k (by omega) with z | z
      · rw [q] at z; omega
      · omega)
    exact Or.inr ⟨a, o_Blast h1 b q2 q3, q1, by rw [q2]; exact d⟩
theorem o_Sgrow {lo hi : Int} {TL : Nat} {xs xs' : Nat → Int64} {fs fs' : Nat → Int32} (h1 : 1 ≤ TL) (S : o_S lo hi TL xs fs) (ra : ∀ i, i < TL → xs' i = xs i) (rb : ∀ i, i < TL → fs' i = fs i) : o_S lo hi TL xs' fs' := by
  have B : ∀ {hi : Int}, o_B lo hi TL fs → o_B lo hi TL fs' := fun {hi} b i q => by rw [rb i q]; exact b i q
  rcases S with ⟨a, b, c⟩ | ⟨a, b, c, d⟩
  · exact Or.inl ⟨a, b, B c⟩
  · exact Or.inr ⟨a, B b, by rw [ra _ (by omega)]; exact c, by rw [rb _ (by omega)]; exact d⟩
def o_D (lo hi lo1 hi1 dl : Int) : Prop := lo1 ≤ lo ∧ lo1 ≤ lo + dl ∧ hi ≤ hi1 ∧ hi + dl ≤ hi1 ∧ 0 ≤ lo + dl ∧ hi + dl ≤ 16 ∧ lo ≤ 16 ∧ (hi1 = 16 ∨ hi1 ≤ 15)
theorem o_Sinit {lo hi lo1 hi1 dl : Int} {TL : Nat} {xs : Nat → Int64} {fs : Nat → Int32} (D : o_D lo hi lo1 hi1 dl) (S : o_S lo hi TL xs fs) : o_S lo1 hi1 TL xs fs ∧ ∀ j, j + 1 < TL → lo ≤ (fs j).toInt ∧ (fs j).toInt ≤ hi := by
  obtain ⟨d1, d2, d3, d4, d5, d6, d7, d8⟩ := D
  have W : ∀ {hi hi1 : Int}, hi ≤ hi1 → o_B lo hi TL fs → o_B lo1 hi1 TL fs := fun {a b} q c i h => (c i h).imp (fun z => ⟨by omega, by omega⟩) id
  have U : ∀ {hi : Int}, o_B lo hi TL fs → ∀ j, j + 1 < TL → lo ≤ (fs j).toInt ∧ (fs j).toInt ≤ hi := fun {a} c j h => (c j (by omega)).elim id (fun z => absurd z.1 (by omega))
  rcases S with ⟨a, b, c⟩ | ⟨a, b, c, d⟩
  · subst a
    exact ⟨Or.inl ⟨by omega, by omega, W (Int.le_refl _) c⟩, U c⟩
  · refine ⟨?_, U b⟩
    rcases d8 with e | e
    · exact Or.inl ⟨e, by omega, W (by omega) b⟩
    · exact Or.inr ⟨e, W d3 b, c, d⟩
theorem o_Sstep {lo hi lo1 hi1 dl : Int} {TL K : Nat} {xs : Nat → Int64} {fs f2 : Nat → Int32} (D : o_D lo hi lo1 hi1 dl) (hK : K + 1 < TL) (S : o_S lo1 hi1 TL xs fs) (U : ∀ j, K ≤ j → j + 1 < TL → lo ≤ (fs j).toInt ∧ (fs j).toInt ≤ hi)
    (e1 : (f2 K).toInt = (fs K).toInt + dl) (e2 : ∀ i, i ≠ K → f2 i = fs i) : o_S lo1 hi1 TL xs f2 ∧ ∀ j, K + 1 ≤ j → j + 1 < TL → lo ≤ (f2 j).toInt ∧ (f2 j).toInt ≤ hi := by
  obtain ⟨d1, d2, d3, d4, d5, d6, d7, d8⟩ := D
  have u := U K (Nat.le_refl _) hK
  refine ⟨?_, fun j h1 h2 => by rw [e2 j (by omega)]; exact U j (by omega) h2⟩
  have B : ∀ {hi2 : Int}, hi1 ≤ hi2 → o_B lo1 hi2 TL fs → o_B lo1 hi2 TL f2 := fun {a} q c i h => by
    rcases Nat.decEq i K with z | z
    · rw [e2 i z]; exact c i h
    · rw [z]; exact Or.inl ⟨by omega, by omega⟩
  rcases S with ⟨a, b, c⟩ | ⟨a, b, c, d⟩
  · exact Or.inl ⟨a, b, B (by omega) c⟩
  · exact Or.inr ⟨a, B (Int.le_refl _) b, c, by rw [e2 _ (by omega)]; exact d⟩
theorem o_nlt0 {x : Int32} (h : 0 ≤ x.toInt) : ¬ x < (0 : Int32) := by rw [Int32.lt_iff_toInt_lt, show ((0 : Int32)).toInt = 0 by decide]; omega
theorem o_nlt16 {x : Int32} (h : x.toInt ≤ 16) : ¬ (16 : Int32) < x := by rw [Int32.lt_iff_toInt_lt, show ((16 : Int32)).toInt = 16 by decide]; omega
theorem o_lt3 {a b x : Int64} (h : ¬ a < x) (q : a < b) : ¬ b < x := by
  rw [Int64.lt_iff_toInt_lt] at *; omega
theorem o_mono {p : Program} {e : Env} {below : List Frame} {s T : State} {f : JFrame} {Q Q' : Option Value → Heap → List Loc → Prop} {C S : Nat} (h : ∀ v h L, Q v h L → Q' v h L) (g : o_G p e below s Q C S T f) : o_G p e below s Q' C S T f := by
  obtain ⟨t, o, h1, h2, h3, v, L, h4, h5, h6⟩ := g
  exact ⟨t, o, h1, h2, h3, v, L, h4, h _ _ _ h5, h6⟩
theorem o_staK {Z : State} {h h' : Heap} {C n d C' : String} {v : Value} {a : Addr} (F : Sta Z h C n d v) (K : Keep h h' [a]) (E : Exa Z h a C') : Sta Z h' C n d v := by
  obtain ⟨cf, i, k, f, st, cell, h1, h2, h3, h4, h5, h6, h7⟩ := F
  obtain ⟨c1, k1, e1, -, -, e4, -⟩ := E
  refine ⟨cf, i, k, f, st, cell, h1, h2, h3, h4, K.2.1 st cell h5 (ninS (fun q => ?_) nin0), h6, h7⟩
  subst q
  cases h5.symm.trans e1
  rw [e4] at h6; cases h6
def o_cL (L : Int32) : Nat := if L = 4 then 0 else if L = 8 then 2 else if L = 16 then 4 else 6
def o_sL (L : Int32) : Nat := if L = 4 then 0 else if L = 8 then 64 else if L = 16 then 128 else 192
theorem o_cL_le (L : Int32) : o_cL L ≤ 6 ∧ o_sL L ≤ 192 := by
  unfold o_cL o_sL
  constructor <;> split <;> (try split) <;> (try split) <;> omega
def o_scan (rs : Nat → Int64) (a b : Int64) : Nat → Nat → Int32
  | _, 0 => 0
  | c, k + 1 => if rs (3 * (c % 8)) < b ∧ a < rs (3 * (c % 8) + 1) then 1 else o_scan rs a b (c + 1) k
def o_co (rs : Nat → Int64) (a b : Int64) (cn sn : Nat) : Int32 := if sn = cn then 0 else if 8 < cn - sn then 1 else o_scan rs a b (sn + 1) (cn - sn)
theorem o_kept2 (cv : Int64) (c : Nat) (hc : cv.toInt = (c : Int)) (h2 : c ≤ 200) : ((3 : Int32) * (cv - (cv / (8 : Int64)) * (8 : Int64)).toInt32).toInt = ((3 * (c % 8) : Nat) : Int) := by
  have e3 := o_lrem8 cv (by omega)
  have e4 := c_l2i (cv - (cv / (8 : Int64)) * (8 : Int64))
  have r4 := rng32 ((cv - (cv / (8 : Int64)) * (8 : Int64)).toInt32)
  have e5 := c_imul (3 : Int32) ((cv - (cv / (8 : Int64)) * (8 : Int64)).toInt32)
  have r5 := rng32 ((3 : Int32) * ((cv - (cv / (8 : Int64)) * (8 : Int64)).toInt32))
  have e6 : ((3 : Int32)).toInt = 3 := by decide
  rw [e6] at e5
  rw [e3, hc] at e4
  generalize (cv - (cv / (8 : Int64)) * (8 : Int64)).toInt32 = y at *
  have e7 : (c : Int) % 8 = ((c % 8 : Nat) : Int) := by rw [Int.natCast_emod]; rfl
  rw [e7] at e4
  have e8 : c % 8 < 8 := Nat.mod_lt _ (by decide)
  generalize c % 8 = q at *
  clear e3 hc h2 e7
  omega
theorem o_nlt0L {x : Int64} (h : 0 ≤ x.toInt) : ¬ x < (0 : Int64) := by rw [Int64.lt_iff_toInt_lt, show ((0 : Int64)).toInt = 0 by decide]; omega
theorem o_eqne {x y : Int64} {a b : Nat} (h : ¬ x = y) (hx : x.toInt = (a : Int)) (hy : y.toInt = (b : Int)) : ¬ a = b := fun q => h (Int64.toInt_inj.mp (by rw [hx, hy, q]))
theorem o_eqeq {x y : Int64} {a b : Nat} (h : x = y) (hx : x.toInt = (a : Int)) (hy : y.toInt = (b : Int)) : a = b := by have := congrArg Int64.toInt h; omega
theorem o_nrange (k : Int32) : 1 ≤ ((1 : Int32) + ((k).toUInt32 >>> ((8 : Int32) &&& 31).toUInt32).toInt32 % (9 : Int32)).toInt ∧ ((1 : Int32) + ((k).toUInt32 >>> ((8 : Int32) &&& 31).toUInt32).toInt32 % (9 : Int32)).toInt ≤ 9 := by
  have e1 := c_iushr k (8 : Int32) 8 (by decide) (by decide)
  generalize ((k).toUInt32 >>> ((8 : Int32) &&& 31).toUInt32).toInt32 = y at *
  have e2 := (c_irem y (9 : Int32) 9 (by decide)).1 (by omega)
  have e3 := c_iadd (1 : Int32) (y % (9 : Int32))
  have r3 := rng32 ((1 : Int32) + y % (9 : Int32))
  rw [show ((1 : Int32)).toInt = 1 from by decide] at e3
  omega
theorem o_nz1 {n : Int32} (h : 1 ≤ n.toInt ∧ n.toInt ≤ 9) : n + (1 : Int32) ≠ 0 := fun q => by
  have e := congrArg Int32.toInt q
  have e3 := c_iadd n (1 : Int32)
  rw [show ((1 : Int32)).toInt = 1 from by decide] at e3
  have e4 : ((0 : Int32)).toInt = 0 := by decide
  omega
theorem o_srange (k n : Int32) (h : 1 ≤ n.toInt ∧ n.toInt ≤ 9) : 0 ≤ ((k &&& (255 : Int32)) % (n + (1 : Int32))).toInt ∧ ((k &&& (255 : Int32)) % (n + (1 : Int32))).toInt < n.toInt + 1 := by
  have e1 := c_mask k (255 : Int32) 8 (by decide) (by decide)
  have e3 := c_iadd n (1 : Int32)
  have r3 := rng32 (n + (1 : Int32))
  rw [show ((1 : Int32)).toInt = 1 from by decide] at e3
  have e5 : (n + (1 : Int32)).toInt = n.toInt + 1 := by omega
  have e4 := (c_iremV (k &&& (255 : Int32)) (n + (1 : Int32))).1 (by omega) (by omega)
  omega

theorem o_m {a0 : Array Value} {Z : State} (hw : ∀ d ∈ tables_1, d.before a0 Z = true) (i : Nat) {d : Cond} (h : tables_1[i]? = some d) : d.before a0 Z = true := hw _ (List.mem_of_getElem? h)
theorem o_b {a b : Nat} (h : Nat.ble a b = true) : a ≤ b := Nat.le_of_ble_eq_true h
theorem o_sn {P : Prop} {Z : State} {a0 : Array Value} {C O n d O' n' d' : String} (L : Laid Z a0 C O n d) (L' : Laid Z a0 C O' n' d') (hn : n ≠ n' := by decide) (ht : (parseFieldDescriptor d).isSome = true := by decide) (ht' : (parseFieldDescriptor d').isSome = true := by decide) : P ∨ Jvm.RoadKit.slotOf Z O n d ≠ Jvm.RoadKit.slotOf Z O' n' d' := by
  obtain ⟨t, h⟩ := Option.isSome_iff_exists.mp ht
  obtain ⟨t', h'⟩ := Option.isSome_iff_exists.mp ht'
  exact Or.inr (Jvm.RoadKit.slot_ne L L' hn h h')
abbrev o_n1 : String := "com/example/gapwright/gapwright/profile/CpuProfile"
abbrev o_n2 : String := "com/example/gapwright/gapwright/profile/CpuProfile$1"
abbrev o_n3 : String := "com/example/gapwright/gapwright/profile/FreeRuns"
abbrev o_n4 : String := "com/example/gapwright/gapwright/profile/CpuProfile$Watcher"
abbrev o_n5 : String := "com/example/gapwright/gapwright/profile/CpuProfileChangedOverPinLaw"
abbrev o_y0 : ByteArray := prog_103_method_44_code
abbrev o_y1 : ByteArray := jdk_29_method_69_code
abbrev o_y2 : ByteArray := jdk_29_method_65_code
abbrev o_y3 : ByteArray := prog_103_method_43_code
abbrev o_y4 : ByteArray := prog_103_method_45_code
abbrev o_y5 : ByteArray := prog_119_method_3_code
abbrev o_y6 : ByteArray := prog_103_method_46_code
abbrev o_y7 : ByteArray := prog_119_method_4_code
abbrev o_y8 : ByteArray := prog_103_method_37_code
abbrev o_y9 : ByteArray := prog_119_method_5_code
abbrev o_y10 : ByteArray := prog_103_method_26_code
abbrev o_y11 : ByteArray := prog_104_method_2_code
abbrev o_y12 : ByteArray := prog_103_method_41_code
abbrev o_y13 : ByteArray := prog_103_method_42_code
abbrev o_y14 : ByteArray := prog_119_method_2_code
abbrev o_y15 : ByteArray := prog_103_method_31_code
abbrev o_y16 : ByteArray := prog_103_method_24_code
abbrev o_y17 : ByteArray := prog_119_method_1_code
abbrev o_y18 : ByteArray := prog_103_method_1_code
abbrev o_y19 : ByteArray := jdk_29_method_70_code
abbrev o_y20 : ByteArray := jdk_29_method_66_code
abbrev o_t0 (v1 : Addr) (v2 : Int32) (v3 : Int32) (v4 : Int32) (v5 : Int64) (v6 : Int32) (v7 : Int32) (v8 : Int32) : Array Slot := #[.val (.ref v1), .val (.int v2), .val (.int v3), .val (.int v4), .val (.long v5), .second, .val (.int v6), .val (.int v7), .val (.int v8)]
abbrev o_f0 (m : MethodId) (pc : Nat) (v1 : Addr) (v2 : Int32) (v3 : Int32) (v4 : Int32) (v5 : Int64) (v6 : Int32) (v7 : Int32) (v8 : Int32) (st : List Value) : JFrame := mkF m pc (o_t0 v1 v2 v3 v4 v5 v6 v7 v8) st
abbrev o_t1 (v1 : Int32) (v2 : Int32) : Array Slot := #[.val (.int v1), .val (.int v2)]
abbrev o_f1 (m : MethodId) (pc : Nat) (v1 : Int32) (v2 : Int32) (st : List Value) : JFrame := mkF m pc (o_t1 v1 v2) st
abbrev o_t2 (v1 : Addr) (v2 : Int32) (v3 : Int32) (v4 : Int32) (v5 : Int64) (v6 : Int32) (v7 : Int32) : Array Slot := #[.val (.ref v1), .val (.int v2), .val (.int v3), .val (.int v4), .val (.long v5), .second, .val (.int v6), .unset, .val (.int v7)]
abbrev o_f2 (m : MethodId) (pc : Nat) (v1 : Addr) (v2 : Int32) (v3 : Int32) (v4 : Int32) (v5 : Int64) (v6 : Int32) (v7 : Int32) (st : List Value) : JFrame := mkF m pc (o_t2 v1 v2 v3 v4 v5 v6 v7) st
abbrev o_t3 (v1 : Addr) (v2 : Int32) (v3 : Int32) (v4 : Int32) (v5 : Int64) (v6 : Int32) (v7 : Int32) : Array Slot := #[.val (.ref v1), .val (.int v2), .val (.int v3), .val (.int v4), .val (.long v5), .second, .unset, .val (.int v6), .val (.int v7)]
abbrev o_f3 (m : MethodId) (pc : Nat) (v1 : Addr) (v2 : Int32) (v3 : Int32) (v4 : Int32) (v5 : Int64) (v6 : Int32) (v7 : Int32) (st : List Value) : JFrame := mkF m pc (o_t3 v1 v2 v3 v4 v5 v6 v7) st
abbrev o_t4 (v1 : Addr) (v2 : Int32) (v3 : Int32) (v4 : Int32) (v5 : Int64) : Array Slot := #[.val (.ref v1), .val (.int v2), .val (.int v3), .val (.int v4), .val (.long v5), .second, .unset, .unset, .unset]
abbrev o_f4 (m : MethodId) (pc : Nat) (v1 : Addr) (v2 : Int32) (v3 : Int32) (v4 : Int32) (v5 : Int64) (st : List Value) : JFrame := mkF m pc (o_t4 v1 v2 v3 v4 v5) st
abbrev o_t5 (v1 : Addr) (v2 : Int32) (v3 : Int32) (v4 : Int32) (v5 : Int64) (v6 : Int32) : Array Slot := #[.val (.ref v1), .val (.int v2), .val (.int v3), .val (.int v4), .val (.long v5), .second, .unset, .val (.int v6), .unset]
abbrev o_f5 (m : MethodId) (pc : Nat) (v1 : Addr) (v2 : Int32) (v3 : Int32) (v4 : Int32) (v5 : Int64) (v6 : Int32) (st : List Value) : JFrame := mkF m pc (o_t5 v1 v2 v3 v4 v5 v6) st
abbrev o_t6 (v1 : Addr) (v2 : Int32) (v3 : Int32) (v4 : Int32) (v5 : Int64) (v6 : Int32) : Array Slot := #[.val (.ref v1), .val (.int v2), .val (.int v3), .val (.int v4), .val (.long v5), .second, .val (.int v6), .unset, .unset]
abbrev o_f6 (m : MethodId) (pc : Nat) (v1 : Addr) (v2 : Int32) (v3 : Int32) (v4 : Int32) (v5 : Int64) (v6 : Int32) (st : List Value) : JFrame := mkF m pc (o_t6 v1 v2 v3 v4 v5 v6) st
abbrev o_t7 (v1 : Addr) (v2 : Int64) : Array Slot := #[.val (.ref v1), .val (.long v2), .second, .unset]
abbrev o_f7 (m : MethodId) (pc : Nat) (v1 : Addr) (v2 : Int64) (st : List Value) : JFrame := mkF m pc (o_t7 v1 v2) st
abbrev o_t8 (v1 : Addr) (v2 : Int64) (v3 : Int32) : Array Slot := #[.val (.ref v1), .val (.long v2), .second, .val (.int v3)]
abbrev o_f8 (m : MethodId) (pc : Nat) (v1 : Addr) (v2 : Int64) (v3 : Int32) (st : List Value) : JFrame := mkF m pc (o_t8 v1 v2 v3) st
abbrev o_t9 (v1 : Addr) (v2 : Int32) : Array Slot := #[.val (.ref v1), .val (.int v2), .unset, .unset]
abbrev o_f9 (m : MethodId) (pc : Nat) (v1 : Addr) (v2 : Int32) (st : List Value) : JFrame := mkF m pc (o_t9 v1 v2) st
abbrev o_t10 (v1 : Addr) (v2 : Int32) : Array Slot := #[.val (.ref v1), .val (.int v2)]
abbrev o_f10 (m : MethodId) (pc : Nat) (v1 : Addr) (v2 : Int32) (st : List Value) : JFrame := mkF m pc (o_t10 v1 v2) st
abbrev o_t11 (v1 : Addr) (v2 : Int32) : Array Slot := #[.val (.ref v1), .val (.int v2), .unset, .unset, .unset, .unset]
abbrev o_f11 (m : MethodId) (pc : Nat) (v1 : Addr) (v2 : Int32) (st : List Value) : JFrame := mkF m pc (o_t11 v1 v2) st
abbrev o_t12 (v1 : Addr) : Array Slot := #[.val (.ref v1)]
abbrev o_f12 (m : MethodId) (pc : Nat) (v1 : Addr) (st : List Value) : JFrame := mkF m pc (o_t12 v1) st
abbrev o_t13 (v1 : Addr) (v2 : Int32) (v3 : Int32) : Array Slot := #[.val (.ref v1), .val (.int v2), .val (.int v3), .unset, .unset, .unset]
abbrev o_f13 (m : MethodId) (pc : Nat) (v1 : Addr) (v2 : Int32) (v3 : Int32) (st : List Value) : JFrame := mkF m pc (o_t13 v1 v2 v3) st
abbrev o_t14 (v1 : Addr) (v2 : Int32) (v3 : Int32) (v4 : Int32) : Array Slot := #[.val (.ref v1), .val (.int v2), .val (.int v3), .val (.int v4), .unset, .unset]
abbrev o_f14 (m : MethodId) (pc : Nat) (v1 : Addr) (v2 : Int32) (v3 : Int32) (v4 : Int32) (st : List Value) : JFrame := mkF m pc (o_t14 v1 v2 v3 v4) st
abbrev o_t15 (v1 : Addr) (v2 : Int32) (v3 : Int32) (v4 : Int32) (v5 : Addr) : Array Slot := #[.val (.ref v1), .val (.int v2), .val (.int v3), .val (.int v4), .val (.ref v5), .unset]
abbrev o_f15 (m : MethodId) (pc : Nat) (v1 : Addr) (v2 : Int32) (v3 : Int32) (v4 : Int32) (v5 : Addr) (st : List Value) : JFrame := mkF m pc (o_t15 v1 v2 v3 v4 v5) st
abbrev o_t16 (v1 : Addr) (v2 : Int32) (v3 : Int32) (v4 : Int32) (v5 : Addr) (v6 : Addr) : Array Slot := #[.val (.ref v1), .val (.int v2), .val (.int v3), .val (.int v4), .val (.ref v5), .val (.ref v6)]
abbrev o_f16 (m : MethodId) (pc : Nat) (v1 : Addr) (v2 : Int32) (v3 : Int32) (v4 : Int32) (v5 : Addr) (v6 : Addr) (st : List Value) : JFrame := mkF m pc (o_t16 v1 v2 v3 v4 v5 v6) st
abbrev o_t17 (v1 : Addr) (v2 : Int32) (v3 : Int64) : Array Slot := #[.val (.ref v1), .val (.int v2), .val (.long v3), .second]
abbrev o_f17 (m : MethodId) (pc : Nat) (v1 : Addr) (v2 : Int32) (v3 : Int64) (st : List Value) : JFrame := mkF m pc (o_t17 v1 v2 v3) st
abbrev o_t18 (v1 : Addr) (v2 : Int32) (v3 : Int32) : Array Slot := #[.val (.ref v1), .val (.int v2), .val (.int v3), .unset]
abbrev o_f18 (m : MethodId) (pc : Nat) (v1 : Addr) (v2 : Int32) (v3 : Int32) (st : List Value) : JFrame := mkF m pc (o_t18 v1 v2 v3) st
abbrev o_t19 (v1 : Addr) (v2 : Int64) (v3 : Int64) (v4 : Int32) (v5 : Int32) (v6 : Int32) (v7 : Int32) (v8 : Int32) : Array Slot := #[.val (.ref v1), .val (.long v2), .second, .val (.long v3), .second, .val (.int v4), .val (.int v5), .val (.int v6), .val (.int v7), .val (.int v8)]
abbrev o_f19 (m : MethodId) (pc : Nat) (v1 : Addr) (v2 : Int64) (v3 : Int64) (v4 : Int32) (v5 : Int32) (v6 : Int32) (v7 : Int32) (v8 : Int32) (st : List Value) : JFrame := mkF m pc (o_t19 v1 v2 v3 v4 v5 v6 v7 v8) st
abbrev o_t20 (v1 : Addr) (v2 : Int64) (v3 : Int64) (v4 : Int32) : Array Slot := #[.val (.ref v1), .val (.long v2), .second, .val (.long v3), .second, .val (.int v4), .unset, .unset, .unset, .unset]
abbrev o_f20 (m : MethodId) (pc : Nat) (v1 : Addr) (v2 : Int64) (v3 : Int64) (v4 : Int32) (st : List Value) : JFrame := mkF m pc (o_t20 v1 v2 v3 v4) st
abbrev o_t21 (v1 : Addr) (v2 : Int64) (v3 : Int64) (v4 : Int32) (v5 : Int32) : Array Slot := #[.val (.ref v1), .val (.long v2), .second, .val (.long v3), .second, .val (.int v4), .val (.int v5), .unset, .unset, .unset]
abbrev o_f21 (m : MethodId) (pc : Nat) (v1 : Addr) (v2 : Int64) (v3 : Int64) (v4 : Int32) (v5 : Int32) (st : List Value) : JFrame := mkF m pc (o_t21 v1 v2 v3 v4 v5) st
abbrev o_t22 (v1 : Addr) (v2 : Int64) (v3 : Int64) (v4 : Int32) (v5 : Int32) (v6 : Int32) : Array Slot := #[.val (.ref v1), .val (.long v2), .second, .val (.long v3), .second, .val (.int v4), .val (.int v5), .val (.int v6), .unset, .unset]
abbrev o_f22 (m : MethodId) (pc : Nat) (v1 : Addr) (v2 : Int64) (v3 : Int64) (v4 : Int32) (v5 : Int32) (v6 : Int32) (st : List Value) : JFrame := mkF m pc (o_t22 v1 v2 v3 v4 v5 v6) st
abbrev o_t23 (v1 : Addr) (v2 : Int64) (v3 : Int64) (v4 : Int32) (v5 : Int32) (v6 : Int32) (v7 : Int32) : Array Slot := #[.val (.ref v1), .val (.long v2), .second, .val (.long v3), .second, .val (.int v4), .val (.int v5), .val (.int v6), .val (.int v7), .unset]
abbrev o_f23 (m : MethodId) (pc : Nat) (v1 : Addr) (v2 : Int64) (v3 : Int64) (v4 : Int32) (v5 : Int32) (v6 : Int32) (v7 : Int32) (st : List Value) : JFrame := mkF m pc (o_t23 v1 v2 v3 v4 v5 v6 v7) st
abbrev o_t24 (v1 : Addr) (v2 : Int64) (v3 : Int64) (v4 : Int32) : Array Slot := #[.val (.ref v1), .val (.long v2), .second, .val (.long v3), .second, .val (.int v4)]
abbrev o_f24 (m : MethodId) (pc : Nat) (v1 : Addr) (v2 : Int64) (v3 : Int64) (v4 : Int32) (st : List Value) : JFrame := mkF m pc (o_t24 v1 v2 v3 v4) st
abbrev o_t25 (v1 : Addr) (v2 : Int64) (v3 : Int64) (v4 : Int64) (v5 : Int64) (v6 : Int32) : Array Slot := #[.val (.ref v1), .val (.long v2), .second, .val (.long v3), .second, .val (.long v4), .second, .val (.long v5), .second, .val (.int v6)]
abbrev o_f25 (m : MethodId) (pc : Nat) (v1 : Addr) (v2 : Int64) (v3 : Int64) (v4 : Int64) (v5 : Int64) (v6 : Int32) (st : List Value) : JFrame := mkF m pc (o_t25 v1 v2 v3 v4 v5 v6) st
abbrev o_t26 (v1 : Addr) (v2 : Int64) (v3 : Int64) (v4 : Int64) : Array Slot := #[.val (.ref v1), .val (.long v2), .second, .val (.long v3), .second, .val (.long v4), .second, .unset, .unset, .unset]
abbrev o_f26 (m : MethodId) (pc : Nat) (v1 : Addr) (v2 : Int64) (v3 : Int64) (v4 : Int64) (st : List Value) : JFrame := mkF m pc (o_t26 v1 v2 v3 v4) st
abbrev o_t27 (v1 : Addr) (v2 : Int64) (v3 : Int64) (v4 : Int64) (v5 : Int64) : Array Slot := #[.val (.ref v1), .val (.long v2), .second, .val (.long v3), .second, .val (.long v4), .second, .val (.long v5), .second, .unset]
abbrev o_f27 (m : MethodId) (pc : Nat) (v1 : Addr) (v2 : Int64) (v3 : Int64) (v4 : Int64) (v5 : Int64) (st : List Value) : JFrame := mkF m pc (o_t27 v1 v2 v3 v4 v5) st
abbrev o_t28 (v1 : Addr) (v2 : Addr) : Array Slot := #[.val (.ref v1), .val (.ref v2)]
abbrev o_f28 (m : MethodId) (pc : Nat) (v1 : Addr) (v2 : Addr) (st : List Value) : JFrame := mkF m pc (o_t28 v1 v2) st
abbrev o_t29 (v1 : Int32) (v2 : Int32) (v3 : Int32) : Array Slot := #[.val (.int v1), .val (.int v2), .val (.int v3)]
abbrev o_f29 (m : MethodId) (pc : Nat) (v1 : Int32) (v2 : Int32) (v3 : Int32) (st : List Value) : JFrame := mkF m pc (o_t29 v1 v2 v3) st
abbrev o_t30 (v1 : Int64) (v2 : Int64) (v3 : Int64) (v4 : Int64) : Array Slot := #[.val (.long v1), .second, .val (.long v2), .second, .val (.long v3), .second, .val (.long v4), .second]
abbrev o_f30 (m : MethodId) (pc : Nat) (v1 : Int64) (v2 : Int64) (v3 : Int64) (v4 : Int64) (st : List Value) : JFrame := mkF m pc (o_t30 v1 v2 v3 v4) st
abbrev o_t31 (v1 : Int64) (v2 : Int64) (v3 : Int64) (v4 : Int64) (v5 : Int64) (v6 : Int32) (v7 : Int64) (v8 : Int64) (v9 : Int64) (v10 : Int64) (v11 : Int32) (v12 : Int32) (v13 : Addr) (v14 : Int32) : Array Slot := #[.val (.long v1), .second, .val (.long v2), .second, .val (.long v3), .second, .val (.long v4), .second, .val (.long v5), .second, .val (.int v6), .val (.long v7), .second, .val (.long v8), .second, .val (.long v9), .second, .val (.long v10), .second, .val (.int v11), .val (.int v12), .val (.ref v13), .val (.int v14), .unset]
abbrev o_f31 (m : MethodId) (pc : Nat) (v1 : Int64) (v2 : Int64) (v3 : Int64) (v4 : Int64) (v5 : Int64) (v6 : Int32) (v7 : Int64) (v8 : Int64) (v9 : Int64) (v10 : Int64) (v11 : Int32) (v12 : Int32) (v13 : Addr) (v14 : Int32) (st : List Value) : JFrame := mkF m pc (o_t31 v1 v2 v3 v4 v5 v6 v7 v8 v9 v10 v11 v12 v13 v14) st
abbrev o_t32 (v1 : Int64) (v2 : Int64) (v3 : Int64) (v4 : Int64) (v5 : Int64) (v6 : Int32) (v7 : Int64) (v8 : Int64) (v9 : Int64) (v10 : Int64) (v11 : Int32) (v12 : Int32) (v13 : Addr) (v14 : Int32) (v15 : Int32) : Array Slot := #[.val (.long v1), .second, .val (.long v2), .second, .val (.long v3), .second, .val (.long v4), .second, .val (.long v5), .second, .val (.int v6), .val (.long v7), .second, .val (.long v8), .second, .val (.long v9), .second, .val (.long v10), .second, .val (.int v11), .val (.int v12), .val (.ref v13), .val (.int v14), .val (.int v15)]
abbrev o_f32 (m : MethodId) (pc : Nat) (v1 : Int64) (v2 : Int64) (v3 : Int64) (v4 : Int64) (v5 : Int64) (v6 : Int32) (v7 : Int64) (v8 : Int64) (v9 : Int64) (v10 : Int64) (v11 : Int32) (v12 : Int32) (v13 : Addr) (v14 : Int32) (v15 : Int32) (st : List Value) : JFrame := mkF m pc (o_t32 v1 v2 v3 v4 v5 v6 v7 v8 v9 v10 v11 v12 v13 v14 v15) st
abbrev o_t33 (v1 : Int64) (v2 : Int64) (v3 : Int64) (v4 : Int64) (v5 : Int64) (v6 : Int32) (v7 : Int64) (v8 : Int64) (v9 : Int64) (v10 : Int64) : Array Slot := #[.val (.long v1), .second, .val (.long v2), .second, .val (.long v3), .second, .val (.long v4), .second, .val (.long v5), .second, .val (.int v6), .val (.long v7), .second, .val (.long v8), .second, .val (.long v9), .second, .val (.long v10), .second, .unset, .unset, .unset, .unset, .unset]
abbrev o_f33 (m : MethodId) (pc : Nat) (v1 : Int64) (v2 : Int64) (v3 : Int64) (v4 : Int64) (v5 : Int64) (v6 : Int32) (v7 : Int64) (v8 : Int64) (v9 : Int64) (v10 : Int64) (st : List Value) : JFrame := mkF m pc (o_t33 v1 v2 v3 v4 v5 v6 v7 v8 v9 v10) st
abbrev o_t34 (v1 : Int64) (v2 : Int64) (v3 : Int64) (v4 : Int64) (v5 : Int64) (v6 : Int32) (v7 : Int64) (v8 : Int64) (v9 : Int64) (v10 : Int64) (v11 : Int32) : Array Slot := #[.val (.long v1), .second, .val (.long v2), .second, .val (.long v3), .second, .val (.long v4), .second, .val (.long v5), .second, .val (.int v6), .val (.long v7), .second, .val (.long v8), .second, .val (.long v9), .second, .val (.long v10), .second, .val (.int v11), .unset, .unset, .unset, .unset]
abbrev o_f34 (m : MethodId) (pc : Nat) (v1 : Int64) (v2 : Int64) (v3 : Int64) (v4 : Int64) (v5 : Int64) (v6 : Int32) (v7 : Int64) (v8 : Int64) (v9 : Int64) (v10 : Int64) (v11 : Int32) (st : List Value) : JFrame := mkF m pc (o_t34 v1 v2 v3 v4 v5 v6 v7 v8 v9 v10 v11) st
abbrev o_t35 (v1 : Int64) (v2 : Int64) (v3 : Int64) (v4 : Int64) (v5 : Int64) (v6 : Int32) (v7 : Int64) (v8 : Int64) (v9 : Int64) (v10 : Int64) (v11 : Int32) (v12 : Int32) : Array Slot := #[.val (.long v1), .second, .val (.long v2), .second, .val (.long v3), .second, .val (.long v4), .second, .val (.long v5), .second, .val (.int v6), .val (.long v7), .second, .val (.long v8), .second, .val (.long v9), .second, .val (.long v10), .second, .val (.int v11), .val (.int v12), .unset, .unset, .unset]
abbrev o_f35 (m : MethodId) (pc : Nat) (v1 : Int64) (v2 : Int64) (v3 : Int64) (v4 : Int64) (v5 : Int64) (v6 : Int32) (v7 : Int64) (v8 : Int64) (v9 : Int64) (v10 : Int64) (v11 : Int32) (v12 : Int32) (st : List Value) : JFrame := mkF m pc (o_t35 v1 v2 v3 v4 v5 v6 v7 v8 v9 v10 v11 v12) st
abbrev o_t36 (v1 : Int64) (v2 : Int64) (v3 : Int64) (v4 : Int64) (v5 : Int64) (v6 : Int32) (v7 : Int64) (v8 : Int64) (v9 : Int64) (v10 : Int64) (v11 : Int32) (v12 : Int32) (v13 : Addr) : Array Slot := #[.val (.long v1), .second, .val (.long v2), .second, .val (.long v3), .second, .val (.long v4), .second, .val (.long v5), .second, .val (.int v6), .val (.long v7), .second, .val (.long v8), .second, .val (.long v9), .second, .val (.long v10), .second, .val (.int v11), .val (.int v12), .val (.ref v13), .unset, .unset]
abbrev o_f36 (m : MethodId) (pc : Nat) (v1 : Int64) (v2 : Int64) (v3 : Int64) (v4 : Int64) (v5 : Int64) (v6 : Int32) (v7 : Int64) (v8 : Int64) (v9 : Int64) (v10 : Int64) (v11 : Int32) (v12 : Int32) (v13 : Addr) (st : List Value) : JFrame := mkF m pc (o_t36 v1 v2 v3 v4 v5 v6 v7 v8 v9 v10 v11 v12 v13) st
abbrev o_t37 (v1 : Int64) (v2 : Int64) : Array Slot := #[.val (.long v1), .second, .val (.long v2), .second]
abbrev o_f37 (m : MethodId) (pc : Nat) (v1 : Int64) (v2 : Int64) (st : List Value) : JFrame := mkF m pc (o_t37 v1 v2) st
abbrev o_t38 (v1 : Int64) (v2 : Int64) (v3 : Int64) (v4 : Int64) (v5 : Int64) (v6 : Int32) (v7 : Int64) (v8 : Int64) : Array Slot := #[.val (.long v1), .second, .val (.long v2), .second, .val (.long v3), .second, .val (.long v4), .second, .val (.long v5), .second, .val (.int v6), .val (.long v7), .second, .val (.long v8), .second, .unset, .unset, .unset, .unset, .unset, .unset, .unset, .unset, .unset]
abbrev o_f38 (m : MethodId) (pc : Nat) (v1 : Int64) (v2 : Int64) (v3 : Int64) (v4 : Int64) (v5 : Int64) (v6 : Int32) (v7 : Int64) (v8 : Int64) (st : List Value) : JFrame := mkF m pc (o_t38 v1 v2 v3 v4 v5 v6 v7 v8) st
abbrev o_t39 (v1 : Int64) (v2 : Int64) (v3 : Int64) (v4 : Int64) (v5 : Int64) (v6 : Int32) (v7 : Int64) (v8 : Int64) (v9 : Int64) : Array Slot := #[.val (.long v1), .second, .val (.long v2), .second, .val (.long v3), .second, .val (.long v4), .second, .val (.long v5), .second, .val (.int v6), .val (.long v7), .second, .val (.long v8), .second, .val (.long v9), .second, .unset, .unset, .unset, .unset, .unset, .unset, .unset]
abbrev o_f39 (m : MethodId) (pc : Nat) (v1 : Int64) (v2 : Int64) (v3 : Int64) (v4 : Int64) (v5 : Int64) (v6 : Int32) (v7 : Int64) (v8 : Int64) (v9 : Int64) (st : List Value) : JFrame := mkF m pc (o_t39 v1 v2 v3 v4 v5 v6 v7 v8 v9) st
abbrev o_t40 (v1 : Int64) (v2 : Int64) (v3 : Int64) (v4 : Int64) (v5 : Int64) (v6 : Int32) : Array Slot := #[.val (.long v1), .second, .val (.long v2), .second, .val (.long v3), .second, .val (.long v4), .second, .val (.long v5), .second, .val (.int v6), .unset, .unset, .unset, .unset, .unset, .unset, .unset, .unset, .unset, .unset, .unset, .unset, .unset]
abbrev o_f40 (m : MethodId) (pc : Nat) (v1 : Int64) (v2 : Int64) (v3 : Int64) (v4 : Int64) (v5 : Int64) (v6 : Int32) (st : List Value) : JFrame := mkF m pc (o_t40 v1 v2 v3 v4 v5 v6) st
abbrev o_t41 (v1 : Int64) (v2 : Int64) (v3 : Int64) (v4 : Int64) (v5 : Int64) (v6 : Int32) (v7 : Int64) : Array Slot := #[.val (.long v1), .second, .val (.long v2), .second, .val (.long v3), .second, .val (.long v4), .second, .val (.long v5), .second, .val (.int v6), .val (.long v7), .second, .unset, .unset, .unset, .unset, .unset, .unset, .unset, .unset, .unset, .unset, .unset]
abbrev o_f41 (m : MethodId) (pc : Nat) (v1 : Int64) (v2 : Int64) (v3 : Int64) (v4 : Int64) (v5 : Int64) (v6 : Int32) (v7 : Int64) (st : List Value) : JFrame := mkF m pc (o_t41 v1 v2 v3 v4 v5 v6 v7) st
def o_Pr (Z : State) (n0 : Nat) (pp rc ru wa tm fr : Addr) (tl la L : Int32) (ch gb : Int64) (xs : Nat → Int64) (fs : Nat → Int32) (rs : Nat → Int64) (h : Heap) : Prop :=
 Exa Z h pp o_n1 ∧ Exa Z h ru o_n3 ∧ Exa Z h wa o_n2 ∧ Fld Z h pp o_n1 "cpus" "I" (.int (16 : Int32)) ∧ Fld Z h pp o_n1 "times" "[J" (.ref tm) ∧ Fld Z h pp o_n1 "free" "[I" (.ref fr) ∧ Fld Z h pp o_n1 "head" "I" (.int (0 : Int32)) ∧ Fld Z h pp o_n1 "tail" "I" (.int tl) ∧ Fld Z h pp o_n1 "lastAt" "I" (.int la) ∧ Fld Z h pp o_n1 "runs" "Lcom/example/gapwright/gapwright/profile/FreeRuns;" (.ref ru) ∧ Fld Z h pp o_n1 "firstKnown" "Z" (.int (0 : Int32)) ∧ Fld Z h pp o_n1 "watcher" "Lcom/example/gapwright/gapwright/profile/CpuProfile$Watcher;" (.ref wa) ∧ Fld Z h pp o_n1 "watchedAs" "I" (.int (0 : Int32)) ∧ Fld Z h pp o_n1 "changes" "J" (.long ch) ∧ Fld Z h pp o_n1 "merged" "J" (.long (0 : Int64)) ∧ Fld Z h pp o_n1 "gaveBack" "J" (.long gb) ∧ Fld Z h pp o_n1 "recent" "[J" (.ref rc) ∧ Fld Z h ru o_n3 "nodes" "[[J" .null ∧ o_LA Z h tm L xs ∧ o_IA Z h fr L fs ∧ o_LA Z h rc (24 : Int32) rs ∧ o_ne tm rc ∧ wa < n0 ∧ n0 ≤ pp ∧ n0 ≤ tm ∧ n0 ≤ fr ∧ n0 ≤ rc ∧ n0 ≤ ru
theorem o_d14_136 : decode o_y0 136 = .ok (.iload 7, 2) := by decide +kernel
theorem o_d14_138 : decode o_y0 138 = .ok (.iload 6, 2) := by decide +kernel
theorem o_d14_140 : decode o_y0 140 = .ok (.isub, 1) := by decide +kernel
theorem o_d14_141 : decode o_y0 141 = .ok (.iconst 1, 1) := by decide +kernel
theorem o_d14_142 : decode o_y0 142 = .ok (.if_icmp .le 36, 3) := by decide +kernel
theorem o_d14_145 : decode o_y0 145 = .ok (.iload 6, 2) := by decide +kernel
theorem o_d14_147 : decode o_y0 147 = .ok (.iload 7, 2) := by decide +kernel
theorem o_d14_149 : decode o_y0 149 = .ok (.iadd, 1) := by decide +kernel
theorem o_d14_150 : decode o_y0 150 = .ok (.iconst 1, 1) := by decide +kernel
theorem o_d14_151 : decode o_y0 151 = .ok (.iushr, 1) := by decide +kernel
theorem o_d14_152 : decode o_y0 152 = .ok (.istore 8, 2) := by decide +kernel
theorem o_d14_154 : decode o_y0 154 = .ok (.aload_n 0, 1) := by decide +kernel
theorem o_d14_155 : decode o_y0 155 = .ok (.iload 8, 2) := by decide +kernel
theorem o_d14_157 : decode o_y0 157 = .ok (.laload, 1) := by decide +kernel
theorem o_d14_158 : decode o_y0 158 = .ok (.lload 4, 2) := by decide +kernel
theorem o_d14_160 : decode o_y0 160 = .ok (.lcmp, 1) := by decide +kernel
theorem o_d14_161 : decode o_y0 161 = .ok (.ifCond .gt 10, 3) := by decide +kernel
theorem o_d14_171 : decode o_y0 171 = .ok (.iload 8, 2) := by decide +kernel
theorem o_d14_173 : decode o_y0 173 = .ok (.istore 7, 2) := by decide +kernel
theorem o_d14_175 : decode o_y0 175 = .ok (.goto (-39), 3) := by decide +kernel
theorem o_d14_164 : decode o_y0 164 = .ok (.iload 8, 2) := by decide +kernel
theorem o_d14_166 : decode o_y0 166 = .ok (.istore 6, 2) := by decide +kernel
theorem o_d14_168 : decode o_y0 168 = .ok (.goto 7, 3) := by decide +kernel
theorem o_d14_178 : decode o_y0 178 = .ok (.iload 6, 2) := by decide +kernel
theorem o_d14_180 : decode o_y0 180 = .ok (.ireturn, 1) := by decide +kernel
set_option maxRecDepth 65536 in
set_option maxHeartbeats 40000000 in
theorem o_place3 {p : Program} {l : Launch} {e : Env} {s : State} {m : MethodId} {below : List Frame} {meth : Method} {c : Code} (Z : State) (a0 : Array Value) (hw : ∀ d ∈ tables_1, d.before a0 Z = true) (t : Addr) (n first lim frm : Int32) (time : Int64) (xs : Nat → Int64) (h0 : Heap) (A0 : o_LA Z h0 t n xs) (b1 : 0 ≤ first.toInt) (b2 : first.toInt ≤ frm.toInt) (b3 : frm.toInt < lim.toInt) (b4 : lim.toInt ≤ n.toInt) (b5 : n.toInt ≤ 64)
  (hx : p.tables.exec = Jvm.exec) (hby : c.code = o_y0) (hml : c.maxLocals = 9) (hZ : Z.Warmed39 s.vm) (hown : s.vm.findClass o_n1 = some m.cls) (hret : meth.sig.returnType = (some .int)) (hlk : meth.locks = false) :
  ∀ (k : Nat) (low high v8 : Int32) {T : State} (X0 : Stand p l e (o_R 1 0 0 13) s m #[(.ref t), (.int first), (.int lim), (.int frm), (.long time)] below meth c T [] 0 0) (e0 : T.heap = h0), first.toInt ≤ low.toInt → low.toInt ≤ high.toInt → low.toInt < lim.toInt → high.toInt ≤ lim.toInt → high.toInt - low.toInt + 1 ≤ (k : Int) → (¬ time < xs first.toNatClampNeg → ¬ time < xs low.toNatClampNeg) → o_G p e below s (fun v h L => ∃ r : Int32, v = some (.int r) ∧ L = [] ∧ h = h0 ∧ first.toInt ≤ r.toInt ∧ r.toInt < lim.toInt ∧ (¬ time < xs first.toNatClampNeg → ¬ time < xs r.toNatClampNeg)) 0 0 T (o_f0 m 136 t first lim frm time low high v8 []) := by
 intro k
 induction k with
 | zero => intro low high v8  T X0 e0 g1 g2 g3 g4 g5 hl; exfalso; omega
 | succ k ih =>
 intro low high v8  T X0 e0 g1 g2 g3 g4 g5 hl
 refine o_q T (o_f0 m 138 t first lim frm time low high v8 [(.int high)]) (fun _ k => XS.iload X0.here hx rfl (hb hby o_d14_136) rfl k) ?_
 refine o_q T (o_f0 m 140 t first lim frm time low high v8 [(.int low), (.int high)]) (fun _ k => XS.iload X0.here hx rfl (hb hby o_d14_138) rfl k) ?_
 refine o_q T (o_f0 m 141 t first lim frm time low high v8 [(.int (high - low))]) (fun _ k => XS.isub X0.here hx rfl (hb hby o_d14_140) rfl k) ?_
 refine o_q T (o_f0 m 142 t first lim frm time low high v8 [(.int (1 : Int32)), (.int (high - low))]) (fun _ k => XS.iconst X0.here hx rfl (hb hby o_d14_141) k) ?_
 by_cases c0 : (1 : Int32) < (high - low)
 ·refine o_q T (o_f0 m 145 t first lim frm time low high v8 []) (fun _ k => XS.icmpNo X0.here hx rfl (hb hby o_d14_142) rfl (tlt c0).2.2.2 k) ?_
  refine o_q T (o_f0 m 147 t first lim frm time low high v8 [(.int low)]) (fun _ k => XS.iload X0.here hx rfl (hb hby o_d14_145) rfl k) ?_
  refine o_q T (o_f0 m 149 t first lim frm time low high v8 [(.int high), (.int low)]) (fun _ k => XS.iload X0.here hx rfl (hb hby o_d14_147) rfl k) ?_
  refine o_q T (o_f0 m 150 t first lim frm time low high v8 [(.int (low + high))]) (fun _ k => XS.iadd X0.here hx rfl (hb hby o_d14_149) rfl k) ?_
  refine o_q T (o_f0 m 151 t first lim frm time low high v8 [(.int (1 : Int32)), (.int (low + high))]) (fun _ k => XS.iconst X0.here hx rfl (hb hby o_d14_150) k) ?_
  refine o_q T (o_f0 m 152 t first lim frm time low high v8 [(.int (((low + high)).toUInt32 >>> ((1 : Int32) &&& 31).toUInt32).toInt32)]) (fun _ k => XS.iushr X0.here hx rfl (hb hby o_d14_151) rfl k) ?_
  refine o_q T (o_f0 m 154 t first lim frm time low high ((((low + high)).toUInt32 >>> ((1 : Int32) &&& 31).toUInt32).toInt32) []) (fun _ k => XS.istore X0.here hx rfl (hb hby o_d14_152) rfl (l' := (o_t0 t first lim frm time low high ((((low + high)).toUInt32 >>> ((1 : Int32) &&& 31).toUInt32).toInt32))) rfl k) ?_
  refine o_q T (o_f0 m 155 t first lim frm time low high ((((low + high)).toUInt32 >>> ((1 : Int32) &&& 31).toUInt32).toInt32) [(.ref t)]) (fun _ k => XS.aloadN X0.here hx rfl (hb hby o_d14_154) rfl rfl k) ?_
  refine o_q T (o_f0 m 157 t first lim frm time low high ((((low + high)).toUInt32 >>> ((1 : Int32) &&& 31).toUInt32).toInt32) [(.int (((low + high)).toUInt32 >>> ((1 : Int32) &&& 31).toUInt32).toInt32), (.ref t)]) (fun _ k => XS.iload X0.here hx rfl (hb hby o_d14_155) rfl k) ?_
  have hin1 : ¬ ((((low + high)).toUInt32 >>> ((1 : Int32) &&& 31).toUInt32).toInt32 < (0 : Int32)) ∧ (((low + high)).toUInt32 >>> ((1 : Int32) &&& 31).toUInt32).toInt32 < n := by
   have r1 := rng32 low
   have r2 := rng32 high
   have e3 := c_iadd (low) (high)
   have r3 := rng32 ((low + high))
   have e4 := c_iushr ((low + high)) (1 : Int32) 1 (by decide) (by decide)
   have r5 := rng32 n
   have k6 : (0 : Int32).toInt = 0 := by decide
   have k7 : (1 : Int32).toInt = 1 := by decide
   have e8 := c_isub (high) (low)
   have r8 := rng32 ((high - low))
   have d0 : (1 : Int32).toInt < ((high - low)).toInt := Int32.lt_iff_toInt_lt.mp c0
   rw [Int32.lt_iff_toInt_lt, Int32.lt_iff_toInt_lt]
   omega
  refine o_q T (o_f0 m 158 t first lim frm time low high ((((low + high)).toUInt32 >>> ((1 : Int32) &&& 31).toUInt32).toInt32) [(.long (xs ((((low + high)).toUInt32 >>> ((1 : Int32) &&& 31).toUInt32).toInt32).toNatClampNeg))]) (fun _ k => o_ldJ X0 hx hZ e0 A0 hin1 (g := (o_f0 m 157 t first lim frm time low high ((((low + high)).toUInt32 >>> ((1 : Int32) &&& 31).toUInt32).toInt32) [(.int (((low + high)).toUInt32 >>> ((1 : Int32) &&& 31).toUInt32).toInt32), (.ref t)])) rfl rfl (hb hby o_d14_157) _ k) ?_
  refine o_q T (o_f0 m 160 t first lim frm time low high ((((low + high)).toUInt32 >>> ((1 : Int32) &&& 31).toUInt32).toInt32) [(.long time), (.long (xs ((((low + high)).toUInt32 >>> ((1 : Int32) &&& 31).toUInt32).toInt32).toNatClampNeg))]) (fun _ k => XS.lload X0.here hx rfl (hb hby o_d14_158) rfl k) ?_
  refine o_q T (o_f0 m 161 t first lim frm time low high ((((low + high)).toUInt32 >>> ((1 : Int32) &&& 31).toUInt32).toInt32) [(.int (lcmpW (xs ((((low + high)).toUInt32 >>> ((1 : Int32) &&& 31).toUInt32).toInt32).toNatClampNeg) time))]) (fun _ k => XS.lcmp X0.here hx rfl (hb hby o_d14_160) rfl k) ?_
  by_cases c1 : time < (xs ((((low + high)).toUInt32 >>> ((1 : Int32) &&& 31).toUInt32).toInt32).toNatClampNeg)
  ·refine o_q T (o_f0 m 171 t first lim frm time low high ((((low + high)).toUInt32 >>> ((1 : Int32) &&& 31).toUInt32).toInt32) []) (fun _ k => XS.ifYes X0.here hx rfl (pc0 := 161) (pc' := 171) rfl (hb hby o_d14_161) rfl ((if0 _ _).trans (tlt ((lw_gt _ _).mpr c1)).2.2.1) (by decide) (by decide) k) ?_
   refine o_q T (o_f0 m 173 t first lim frm time low high ((((low + high)).toUInt32 >>> ((1 : Int32) &&& 31).toUInt32).toInt32) [(.int (((low + high)).toUInt32 >>> ((1 : Int32) &&& 31).toUInt32).toInt32)]) (fun _ k => XS.iload X0.here hx rfl (hb hby o_d14_171) rfl k) ?_
   refine o_q T (o_f0 m 175 t first lim frm time low ((((low + high)).toUInt32 >>> ((1 : Int32) &&& 31).toUInt32).toInt32) ((((low + high)).toUInt32 >>> ((1 : Int32) &&& 31).toUInt32).toInt32) []) (fun _ k => XS.istore X0.here hx rfl (hb hby o_d14_173) rfl (l' := (o_t0 t first lim frm time low ((((low + high)).toUInt32 >>> ((1 : Int32) &&& 31).toUInt32).toInt32) ((((low + high)).toUInt32 >>> ((1 : Int32) &&& 31).toUInt32).toInt32))) rfl k) ?_
   refine o_q T (o_f0 m 136 t first lim frm time low ((((low + high)).toUInt32 >>> ((1 : Int32) &&& 31).toUInt32).toInt32) ((((low + high)).toUInt32 >>> ((1 : Int32) &&& 31).toUInt32).toInt32) []) (fun _ k => XS.goto X0.here hx rfl (pc0 := 175) (pc' := 136) rfl (hb hby o_d14_175) (by decide) (by decide) k) ?_
   have q2 : first.toInt ≤ low.toInt := by
    have r1 := rng32 low
    have r2 := rng32 high
    have e3 := c_iadd (low) (high)
    have r3 := rng32 ((low + high))
    have e4 := c_iushr ((low + high)) (1 : Int32) 1 (by decide) (by decide)
    have k5 : (1 : Int32).toInt = 1 := by decide
    have e6 := c_isub (high) (low)
    have r6 := rng32 ((high - low))
    have d0 : (1 : Int32).toInt < ((high - low)).toInt := Int32.lt_iff_toInt_lt.mp c0
    omega
   have q3 : low.toInt ≤ ((((low + high)).toUInt32 >>> ((1 : Int32) &&& 31).toUInt32).toInt32).toInt := by
    have r1 := rng32 low
    have r2 := rng32 high
    have e3 := c_iadd (low) (high)
    have r3 := rng32 ((low + high))
    have e4 := c_iushr ((low + high)) (1 : Int32) 1 (by decide) (by decide)
    have k5 : (1 : Int32).toInt = 1 := by decide
    have e6 := c_isub (high) (low)
    have r6 := rng32 ((high - low))
    have d0 : (1 : Int32).toInt < ((high - low)).toInt := Int32.lt_iff_toInt_lt.mp c0
    omega
   have q4 : low.toInt < lim.toInt := by
    have r1 := rng32 low
    have r2 := rng32 high
    have e3 := c_iadd (low) (high)
    have r3 := rng32 ((low + high))
    have e4 := c_iushr ((low + high)) (1 : Int32) 1 (by decide) (by decide)
    have k5 : (1 : Int32).toInt = 1 := by decide
    have e6 := c_isub (high) (low)
    have r6 := rng32 ((high - low))
    have d0 : (1 : Int32).toInt < ((high - low)).toInt := Int32.lt_iff_toInt_lt.mp c0
    omega
   have q5 : ((((low + high)).toUInt32 >>> ((1 : Int32) &&& 31).toUInt32).toInt32).toInt ≤ lim.toInt := by
    have r1 := rng32 low
    have r2 := rng32 high
    have e3 := c_iadd (low) (high)
    have r3 := rng32 ((low + high))
    have e4 := c_iushr ((low + high)) (1 : Int32) 1 (by decide) (by decide)
    have k5 : (1 : Int32).toInt = 1 := by decide
    have e6 := c_isub (high) (low)
    have r6 := rng32 ((high - low))
    have d0 : (1 : Int32).toInt < ((high - low)).toInt := Int32.lt_iff_toInt_lt.mp c0
    omega
   have q6 : ((((low + high)).toUInt32 >>> ((1 : Int32) &&& 31).toUInt32).toInt32).toInt - low.toInt + 1 ≤ (k : Int) := by
    have r1 := rng32 low
    have r2 := rng32 high
    have e3 := c_iadd (low) (high)
    have r3 := rng32 ((low + high))
    have e4 := c_iushr ((low + high)) (1 : Int32) 1 (by decide) (by decide)
    have k5 : (1 : Int32).toInt = 1 := by decide
    have e6 := c_isub (high) (low)
    have r6 := rng32 ((high - low))
    have d0 : (1 : Int32).toInt < ((high - low)).toInt := Int32.lt_iff_toInt_lt.mp c0
    omega
   exact ih low (((low + high)).toUInt32 >>> ((1 : Int32) &&& 31).toUInt32).toInt32 ((((low + high)).toUInt32 >>> ((1 : Int32) &&& 31).toUInt32).toInt32) X0 e0 q2 q3 q4 q5 q6 hl
  ·refine o_q T (o_f0 m 164 t first lim frm time low high ((((low + high)).toUInt32 >>> ((1 : Int32) &&& 31).toUInt32).toInt32) []) (fun _ k => XS.ifNo X0.here hx rfl (hb hby o_d14_161) rfl ((if0 _ _).trans (flt (mt (lw_gt _ _).mp c1)).2.2.1) k) ?_
   refine o_q T (o_f0 m 166 t first lim frm time low high ((((low + high)).toUInt32 >>> ((1 : Int32) &&& 31).toUInt32).toInt32) [(.int (((low + high)).toUInt32 >>> ((1 : Int32) &&& 31).toUInt32).toInt32)]) (fun _ k => XS.iload X0.here hx rfl (hb hby o_d14_164) rfl k) ?_
   refine o_q T (o_f0 m 168 t first lim frm time ((((low + high)).toUInt32 >>> ((1 : Int32) &&& 31).toUInt32).toInt32) high ((((low + high)).toUInt32 >>> ((1 : Int32) &&& 31).toUInt32).toInt32) []) (fun _ k => XS.istore X0.here hx rfl (hb hby o_d14_166) rfl (l' := (o_t0 t first lim frm time ((((low + high)).toUInt32 >>> ((1 : Int32) &&& 31).toUInt32).toInt32) high ((((low + high)).toUInt32 >>> ((1 : Int32) &&& 31).toUInt32).toInt32))) rfl k) ?_
   refine o_q T (o_f0 m 175 t first lim frm time ((((low + high)).toUInt32 >>> ((1 : Int32) &&& 31).toUInt32).toInt32) high ((((low + high)).toUInt32 >>> ((1 : Int32) &&& 31).toUInt32).toInt32) []) (fun _ k => XS.goto X0.here hx rfl (pc0 := 168) (pc' := 175) rfl (hb hby o_d14_168) (by decide) (by decide) k) ?_
   refine o_q T (o_f0 m 136 t first lim frm time ((((low + high)).toUInt32 >>> ((1 : Int32) &&& 31).toUInt32).toInt32) high ((((low + high)).toUInt32 >>> ((1 : Int32) &&& 31).toUInt32).toInt32) []) (fun _ k => XS.goto X0.here hx rfl (pc0 := 175) (pc' := 136) rfl (hb hby o_d14_175) (by decide) (by decide) k) ?_
   have q7 : first.toInt ≤ ((((low + high)).toUInt32 >>> ((1 : Int32) &&& 31).toUInt32).toInt32).toInt := by
    have r1 := rng32 low
    have r2 := rng32 high
    have e3 := c_iadd (low) (high)
    have r3 := rng32 ((low + high))
    have e4 := c_iushr ((low + high)) (1 : Int32) 1 (by decide) (by decide)
    have k5 : (1 : Int32).toInt = 1 := by decide
    have e6 := c_isub (high) (low)
    have r6 := rng32 ((high - low))
    have d0 : (1 : Int32).toInt < ((high - low)).toInt := Int32.lt_iff_toInt_lt.mp c0
    omega
   have q8 : ((((low + high)).toUInt32 >>> ((1 : Int32) &&& 31).toUInt32).toInt32).toInt ≤ high.toInt := by
    have r1 := rng32 low
    have r2 := rng32 high
    have e3 := c_iadd (low) (high)
    have r3 := rng32 ((low + high))
    have e4 := c_iushr ((low + high)) (1 : Int32) 1 (by decide) (by decide)
    have k5 : (1 : Int32).toInt = 1 := by decide
    have e6 := c_isub (high) (low)
    have r6 := rng32 ((high - low))
    have d0 : (1 : Int32).toInt < ((high - low)).toInt := Int32.lt_iff_toInt_lt.mp c0
    omega
   have q9 : ((((low + high)).toUInt32 >>> ((1 : Int32) &&& 31).toUInt32).toInt32).toInt < lim.toInt := by
    have r1 := rng32 low
    have r2 := rng32 high
    have e3 := c_iadd (low) (high)
    have r3 := rng32 ((low + high))
    have e4 := c_iushr ((low + high)) (1 : Int32) 1 (by decide) (by decide)
    have k5 : (1 : Int32).toInt = 1 := by decide
    have e6 := c_isub (high) (low)
    have r6 := rng32 ((high - low))
    have d0 : (1 : Int32).toInt < ((high - low)).toInt := Int32.lt_iff_toInt_lt.mp c0
    omega
   have q10 : high.toInt ≤ lim.toInt := by
    have r1 := rng32 low
    have r2 := rng32 high
    have e3 := c_iadd (low) (high)
    have r3 := rng32 ((low + high))
    have e4 := c_iushr ((low + high)) (1 : Int32) 1 (by decide) (by decide)
    have k5 : (1 : Int32).toInt = 1 := by decide
    have e6 := c_isub (high) (low)
    have r6 := rng32 ((high - low))
    have d0 : (1 : Int32).toInt < ((high - low)).toInt := Int32.lt_iff_toInt_lt.mp c0
    omega
   have q11 : high.toInt - ((((low + high)).toUInt32 >>> ((1 : Int32) &&& 31).toUInt32).toInt32).toInt + 1 ≤ (k : Int) := by
    have r1 := rng32 low
    have r2 := rng32 high
    have e3 := c_iadd (low) (high)
    have r3 := rng32 ((low + high))
    have e4 := c_iushr ((low + high)) (1 : Int32) 1 (by decide) (by decide)
    have k5 : (1 : Int32).toInt = 1 := by decide
    have e6 := c_isub (high) (low)
    have r6 := rng32 ((high - low))
    have d0 : (1 : Int32).toInt < ((high - low)).toInt := Int32.lt_iff_toInt_lt.mp c0
    omega
   exact ih (((low + high)).toUInt32 >>> ((1 : Int32) &&& 31).toUInt32).toInt32 high ((((low + high)).toUInt32 >>> ((1 : Int32) &&& 31).toUInt32).toInt32) X0 e0 q7 q8 q9 q10 q11 (fun _ => c1)
 ·refine o_q T (o_f0 m 178 t first lim frm time low high v8 []) (fun _ k => XS.icmpYes X0.here hx rfl (pc0 := 142) (pc' := 178) rfl (hb hby o_d14_142) rfl (flt c0).2.2.2 (by decide) (by decide) k) ?_
  refine o_q T (o_f0 m 180 t first lim frm time low high v8 [(.int low)]) (fun _ k => XS.iload X0.here hx rfl (hb hby o_d14_178) rfl k) ?_
  exact o_retI X0 hx hlk hret (hb hby o_d14_180) ⟨low, rfl, rfl, e0, g1, g3, hl⟩ (by decide) (by decide)
theorem o_d14_15 : decode o_y0 15 = .ok (.iload 8, 2) := by decide +kernel
theorem o_d14_17 : decode o_y0 17 = .ok (.iload_n 2, 1) := by decide +kernel
theorem o_d14_18 : decode o_y0 18 = .ok (.iload 6, 2) := by decide +kernel
theorem o_d14_20 : decode o_y0 20 = .ok (.isub, 1) := by decide +kernel
theorem o_d14_21 : decode o_y0 21 = .ok (.if_icmp .ge 39, 3) := by decide +kernel
theorem o_d14_24 : decode o_y0 24 = .ok (.aload_n 0, 1) := by decide +kernel
theorem o_d14_25 : decode o_y0 25 = .ok (.iload 6, 2) := by decide +kernel
theorem o_d14_27 : decode o_y0 27 = .ok (.iload 8, 2) := by decide +kernel
theorem o_d14_29 : decode o_y0 29 = .ok (.iadd, 1) := by decide +kernel
theorem o_d14_30 : decode o_y0 30 = .ok (.laload, 1) := by decide +kernel
theorem o_d14_31 : decode o_y0 31 = .ok (.lload 4, 2) := by decide +kernel
theorem o_d14_33 : decode o_y0 33 = .ok (.lcmp, 1) := by decide +kernel
theorem o_d14_34 : decode o_y0 34 = .ok (.ifCond .gt 26, 3) := by decide +kernel
theorem o_d14_60 : decode o_y0 60 = .ok (.iload 6, 2) := by decide +kernel
theorem o_d14_62 : decode o_y0 62 = .ok (.iload 8, 2) := by decide +kernel
theorem o_d14_64 : decode o_y0 64 = .ok (.iadd, 1) := by decide +kernel
theorem o_d14_65 : decode o_y0 65 = .ok (.iload_n 2, 1) := by decide +kernel
theorem o_d14_66 : decode o_y0 66 = .ok (.invokestatic 107, 3) := by decide +kernel
theorem o_d15_0 : decode o_y1 0 = .ok (.iload_n 0, 1) := by decide +kernel
theorem o_d15_1 : decode o_y1 1 = .ok (.iload_n 1, 1) := by decide +kernel
theorem o_d15_2 : decode o_y1 2 = .ok (.if_icmp .gt 7, 3) := by decide +kernel
theorem o_d15_9 : decode o_y1 9 = .ok (.iload_n 1, 1) := by decide +kernel
theorem o_d15_10 : decode o_y1 10 = .ok (.ireturn, 1) := by decide +kernel
theorem o_d15_5 : decode o_y1 5 = .ok (.iload_n 0, 1) := by decide +kernel
theorem o_d15_6 : decode o_y1 6 = .ok (.goto 4, 3) := by decide +kernel
theorem o_pn15 : plainFor (⟨"java/lang/Math", "min", "(II)I"⟩ : MethodName) = true := Jvm.Free.JP.mathPlain rfl (by decide +kernel)
set_option maxRecDepth 65536 in
set_option maxHeartbeats 40000000 in
theorem o_k15_1 (l : Launch) (Z : State) (a0 : Array Value) (hw : ∀ d ∈ tables_1, d.before a0 Z = true) (p0 : Int32) (p1 : Int32) (h0 : Heap)  :
  o_C l (⟨"java/lang/Math", "min", "(II)I"⟩ : MethodName) o_y1 2 (some .int) (o_R 0 0 0 0) Z h0 #[(.int p0), (.int p1)] (o_P (some (if p1 < p0 then (.int p1) else (.int p0))) h0) := by
 refine o_body o_pn15 ?_
 intro p e s m below meth c s₁ hx hby hml hZ hown hnm hret hlk X0 e0
 refine o_cast (f' := (o_f1 m 0 p0 p1 [])) (by first | (simp [entryFrame, mkF, argsToLocals, Value.category, maxLocals]; done) | rfl) ?_
 refine o_q s₁ (o_f1 m 1 p0 p1 [(.int p0)]) (fun _ k => XS.iloadN X0.here hx rfl (hb hby o_d15_0) rfl k) ?_
 refine o_q s₁ (o_f1 m 2 p0 p1 [(.int p1), (.int p0)]) (fun _ k => XS.iloadN X0.here hx rfl (hb hby o_d15_1) rfl k) ?_
 by_cases c0 : p1 < p0
 ·refine o_q s₁ (o_f1 m 9 p0 p1 []) (fun _ k => XS.icmpYes X0.here hx rfl (pc0 := 2) (pc' := 9) rfl (hb hby o_d15_2) rfl (tlt c0).2.2.1 (by decide) (by decide) k) ?_
  refine o_q s₁ (o_f1 m 10 p0 p1 [(.int p1)]) (fun _ k => XS.iloadN X0.here hx rfl (hb hby o_d15_9) rfl k) ?_
  exact o_retI X0 hx hlk hret (hb hby o_d15_10) ⟨by simp only [if_pos c0], rfl, e0⟩ (by decide) (by decide)
 ·refine o_q s₁ (o_f1 m 5 p0 p1 []) (fun _ k => XS.icmpNo X0.here hx rfl (hb hby o_d15_2) rfl (flt c0).2.2.1 k) ?_
  refine o_q s₁ (o_f1 m 6 p0 p1 [(.int p0)]) (fun _ k => XS.iloadN X0.here hx rfl (hb hby o_d15_5) rfl k) ?_
  refine o_q s₁ (o_f1 m 10 p0 p1 [(.int p0)]) (fun _ k => XS.goto X0.here hx rfl (pc0 := 6) (pc' := 10) rfl (hb hby o_d15_6) (by decide) (by decide) k) ?_
  exact o_retI X0 hx hlk hret (hb hby o_d15_10) ⟨by simp only [if_neg c0], rfl, e0⟩ (by decide) (by decide)
theorem o_pd3 : parseMethodDescriptor "(II)I" = some ⟨[.int, .int], some .int⟩ := by decide +kernel
theorem o_d14_69 : decode o_y0 69 = .ok (.istore 7, 2) := by decide +kernel
theorem o_d14_71 : decode o_y0 71 = .ok (.goto 65, 3) := by decide +kernel
theorem o_d14_37 : decode o_y0 37 = .ok (.iload 6, 2) := by decide +kernel
theorem o_d14_39 : decode o_y0 39 = .ok (.iload 8, 2) := by decide +kernel
theorem o_d14_41 : decode o_y0 41 = .ok (.iadd, 1) := by decide +kernel
theorem o_d14_42 : decode o_y0 42 = .ok (.istore 6, 2) := by decide +kernel
theorem o_d14_44 : decode o_y0 44 = .ok (.iconst 2, 1) := by decide +kernel
theorem o_d14_45 : decode o_y0 45 = .ok (.iload 8, 2) := by decide +kernel
theorem o_d14_47 : decode o_y0 47 = .ok (.imul, 1) := by decide +kernel
theorem o_d14_48 : decode o_y0 48 = .ok (.iload_n 2, 1) := by decide +kernel
theorem o_d14_49 : decode o_y0 49 = .ok (.iload 6, 2) := by decide +kernel
theorem o_d14_51 : decode o_y0 51 = .ok (.isub, 1) := by decide +kernel
theorem o_d14_52 : decode o_y0 52 = .ok (.invokestatic 107, 3) := by decide +kernel
theorem o_d14_55 : decode o_y0 55 = .ok (.istore 8, 2) := by decide +kernel
theorem o_d14_57 : decode o_y0 57 = .ok (.goto (-42), 3) := by decide +kernel
set_option maxRecDepth 65536 in
set_option maxHeartbeats 40000000 in
theorem o_place1 {p : Program} {l : Launch} {e : Env} {s : State} {m : MethodId} {below : List Frame} {meth : Method} {c : Code} (Z : State) (a0 : Array Value) (hw : ∀ d ∈ tables_1, d.before a0 Z = true) (t : Addr) (n first lim frm : Int32) (time : Int64) (xs : Nat → Int64) (h0 : Heap) (A0 : o_LA Z h0 t n xs) (b1 : 0 ≤ first.toInt) (b2 : first.toInt ≤ frm.toInt) (b3 : frm.toInt < lim.toInt) (b4 : lim.toInt ≤ n.toInt) (b5 : n.toInt ≤ 64)
  (hx : p.tables.exec = Jvm.exec) (hby : c.code = o_y0) (hml : c.maxLocals = 9) (hZ : Z.Warmed39 s.vm) (hown : s.vm.findClass o_n1 = some m.cls) (hret : meth.sig.returnType = (some .int)) (hlk : meth.locks = false) :
  ∀ (k : Nat) (low step : Int32) {T : State} (X0 : Stand p l e (o_R 1 0 0 13) s m #[(.ref t), (.int first), (.int lim), (.int frm), (.long time)] below meth c T [] 0 0) (e0 : T.heap = h0), first.toInt ≤ low.toInt → low.toInt < lim.toInt → 1 ≤ step.toInt → step.toInt ≤ lim.toInt - low.toInt → lim.toInt - low.toInt ≤ (k : Int) → ¬ time < xs low.toNatClampNeg → o_G p e below s (fun v h L => ∃ r : Int32, v = some (.int r) ∧ L = [] ∧ h = h0 ∧ first.toInt ≤ r.toInt ∧ r.toInt < lim.toInt ∧ (¬ time < xs first.toNatClampNeg → ¬ time < xs r.toNatClampNeg)) 0 0 T (o_f2 m 15 t first lim frm time low step []) := by
 intro k
 induction k with
 | zero => intro low step  T X0 e0 g1 g2 g3 g4 g5 hl; exfalso; omega
 | succ k ih =>
 intro low step  T X0 e0 g1 g2 g3 g4 g5 hl
 refine o_q T (o_f2 m 17 t first lim frm time low step [(.int step)]) (fun _ k => XS.iload X0.here hx rfl (hb hby o_d14_15) rfl k) ?_
 refine o_q T (o_f2 m 18 t first lim frm time low step [(.int lim), (.int step)]) (fun _ k => XS.iloadN X0.here hx rfl (hb hby o_d14_17) rfl k) ?_
 refine o_q T (o_f2 m 20 t first lim frm time low step [(.int low), (.int lim), (.int step)]) (fun _ k => XS.iload X0.here hx rfl (hb hby o_d14_18) rfl k) ?_
 refine o_q T (o_f2 m 21 t first lim frm time low step [(.int (lim - low)), (.int step)]) (fun _ k => XS.isub X0.here hx rfl (hb hby o_d14_20) rfl k) ?_
 by_cases c0 : step < (lim - low)
 ·refine o_q T (o_f2 m 24 t first lim frm time low step []) (fun _ k => XS.icmpNo X0.here hx rfl (hb hby o_d14_21) rfl (tlt c0).2.1 k) ?_
  refine o_q T (o_f2 m 25 t first lim frm time low step [(.ref t)]) (fun _ k => XS.aloadN X0.here hx rfl (hb hby o_d14_24) rfl rfl k) ?_
  refine o_q T (o_f2 m 27 t first lim frm time low step [(.int low), (.ref t)]) (fun _ k => XS.iload X0.here hx rfl (hb hby o_d14_25) rfl k) ?_
  refine o_q T (o_f2 m 29 t first lim frm time low step [(.int step), (.int low), (.ref t)]) (fun _ k => XS.iload X0.here hx rfl (hb hby o_d14_27) rfl k) ?_
  refine o_q T (o_f2 m 30 t first lim frm time low step [(.int (low + step)), (.ref t)]) (fun _ k => XS.iadd X0.here hx rfl (hb hby o_d14_29) rfl k) ?_
  have hin1 : ¬ ((low + step) < (0 : Int32)) ∧ (low + step) < n := by
   have r1 := rng32 low
   have r2 := rng32 step
   have e3 := c_iadd (low) (step)
   have r3 := rng32 ((low + step))
   have r4 := rng32 n
   have k5 : (0 : Int32).toInt = 0 := by decide
   have r6 := rng32 lim
   have e7 := c_isub (lim) (low)
   have r7 := rng32 ((lim - low))
   have d0 : step.toInt < ((lim - low)).toInt := Int32.lt_iff_toInt_lt.mp c0
   rw [Int32.lt_iff_toInt_lt, Int32.lt_iff_toInt_lt]
   omega
  refine o_q T (o_f2 m 31 t first lim frm time low step [(.long (xs ((low + step)).toNatClampNeg))]) (fun _ k => o_ldJ X0 hx hZ e0 A0 hin1 (g := (o_f2 m 30 t first lim frm time low step [(.int (low + step)), (.ref t)])) rfl rfl (hb hby o_d14_30) _ k) ?_
  refine o_q T (o_f2 m 33 t first lim frm time low step [(.long time), (.long (xs ((low + step)).toNatClampNeg))]) (fun _ k => XS.lload X0.here hx rfl (hb hby o_d14_31) rfl k) ?_
  refine o_q T (o_f2 m 34 t first lim frm time low step [(.int (lcmpW (xs ((low + step)).toNatClampNeg) time))]) (fun _ k => XS.lcmp X0.here hx rfl (hb hby o_d14_33) rfl k) ?_
  by_cases c1 : time < (xs ((low + step)).toNatClampNeg)
  ·refine o_q T (o_f2 m 60 t first lim frm time low step []) (fun _ k => XS.ifYes X0.here hx rfl (pc0 := 34) (pc' := 60) rfl (hb hby o_d14_34) rfl ((if0 _ _).trans (tlt ((lw_gt _ _).mpr c1)).2.2.1) (by decide) (by decide) k) ?_
   refine o_q T (o_f2 m 62 t first lim frm time low step [(.int low)]) (fun _ k => XS.iload X0.here hx rfl (hb hby o_d14_60) rfl k) ?_
   refine o_q T (o_f2 m 64 t first lim frm time low step [(.int step), (.int low)]) (fun _ k => XS.iload X0.here hx rfl (hb hby o_d14_62) rfl k) ?_
   refine o_q T (o_f2 m 65 t first lim frm time low step [(.int (low + step))]) (fun _ k => XS.iadd X0.here hx rfl (hb hby o_d14_64) rfl k) ?_
   refine o_q T (o_f2 m 66 t first lim frm time low step [(.int lim), (.int (low + step))]) (fun _ k => XS.iloadN X0.here hx rfl (hb hby o_d14_65) rfl k) ?_
   obtain ⟨v2, T2, L2, hQ2, X2, st2⟩ := o_callS X0 hx hZ e0 hown (o_m hw 110 rfl) (o_m hw 111 rfl) (by decide) (o_m hw 112 rfl) (o_m hw 2 rfl) (o_k15_1 l Z a0 hw (low + step) lim h0 ) (g := (o_f2 m 66 t first lim frm time low step [(.int lim), (.int (low + step))])) rfl (by rw [hml]; rfl) rfl (argsL := [(.int (low + step)), (.int lim)]) (rest := []) rfl (lenOf o_pd3 rfl) rfl (hb hby o_d14_66) (o_b rfl) (o_b rfl) (o_b rfl) (o_b rfl)
   obtain ⟨rfl, rfl, e2⟩ := hQ2
   rw [List.append_nil] at X2
   by_cases c2 : lim < (low + step)
   ·rw [if_pos c2] at st2
    refine o_q T2 (o_f2 m 69 t first lim frm time low step [(.int lim)]) st2 ?_
    refine o_q T2 (o_f0 m 71 t first lim frm time low lim step []) (fun _ k => XS.istore X2.here hx rfl (hb hby o_d14_69) rfl (l' := (o_t0 t first lim frm time low lim step)) rfl k) ?_
    refine o_q T2 (o_f0 m 136 t first lim frm time low lim step []) (fun _ k => XS.goto X2.here hx rfl (pc0 := 71) (pc' := 136) rfl (hb hby o_d14_71) (by decide) (by decide) k) ?_
    have q3 : first.toInt ≤ low.toInt := by
     have r1 := rng32 low
     have r2 := rng32 lim
     have r3 := rng32 step
     have e4 := c_isub (lim) (low)
     have r4 := rng32 ((lim - low))
     have e5 := c_iadd (low) (step)
     have r5 := rng32 ((low + step))
     have d0 : step.toInt < ((lim - low)).toInt := Int32.lt_iff_toInt_lt.mp c0
     have d2 : lim.toInt < ((low + step)).toInt := Int32.lt_iff_toInt_lt.mp c2
     omega
    have q4 : low.toInt ≤ lim.toInt := by
     have r1 := rng32 low
     have r2 := rng32 lim
     have r3 := rng32 step
     have e4 := c_isub (lim) (low)
     have r4 := rng32 ((lim - low))
     have e5 := c_iadd (low) (step)
     have r5 := rng32 ((low + step))
     have d0 : step.toInt < ((lim - low)).toInt := Int32.lt_iff_toInt_lt.mp c0
     have d2 : lim.toInt < ((low + step)).toInt := Int32.lt_iff_toInt_lt.mp c2
     omega
    have q5 : low.toInt < lim.toInt := by
     have r1 := rng32 low
     have r2 := rng32 lim
     have r3 := rng32 step
     have e4 := c_isub (lim) (low)
     have r4 := rng32 ((lim - low))
     have e5 := c_iadd (low) (step)
     have r5 := rng32 ((low + step))
     have d0 : step.toInt < ((lim - low)).toInt := Int32.lt_iff_toInt_lt.mp c0
     have d2 : lim.toInt < ((low + step)).toInt := Int32.lt_iff_toInt_lt.mp c2
     omega
    have q6 : lim.toInt ≤ lim.toInt := by
     have r1 := rng32 low
     have r2 := rng32 lim
     have r3 := rng32 step
     have e4 := c_isub (lim) (low)
     have r4 := rng32 ((lim - low))
     have e5 := c_iadd (low) (step)
     have r5 := rng32 ((low + step))
     have d0 : step.toInt < ((lim - low)).toInt := Int32.lt_iff_toInt_lt.mp c0
     have d2 : lim.toInt < ((low + step)).toInt := Int32.lt_iff_toInt_lt.mp c2
     omega
    have q7 : lim.toInt - low.toInt + 1 ≤ (100 : Nat) := by
     have r1 := rng32 low
     have r2 := rng32 lim
     have r3 := rng32 step
     have e4 := c_isub (lim) (low)
     have r4 := rng32 ((lim - low))
     have e5 := c_iadd (low) (step)
     have r5 := rng32 ((low + step))
     have d0 : step.toInt < ((lim - low)).toInt := Int32.lt_iff_toInt_lt.mp c0
     have d2 : lim.toInt < ((low + step)).toInt := Int32.lt_iff_toInt_lt.mp c2
     omega
    exact o_place3 Z a0 hw t n first lim frm time xs h0 A0 b1 b2 b3 b4 b5 hx hby hml hZ hown hret hlk 100 low lim (step) X2 e2 q3 q4 q5 q6 q7 (fun _ => hl)
   ·rw [if_neg c2] at st2
    refine o_q T2 (o_f2 m 69 t first lim frm time low step [(.int (low + step))]) st2 ?_
    refine o_q T2 (o_f0 m 71 t first lim frm time low (low + step) step []) (fun _ k => XS.istore X2.here hx rfl (hb hby o_d14_69) rfl (l' := (o_t0 t first lim frm time low (low + step) step)) rfl k) ?_
    refine o_q T2 (o_f0 m 136 t first lim frm time low (low + step) step []) (fun _ k => XS.goto X2.here hx rfl (pc0 := 71) (pc' := 136) rfl (hb hby o_d14_71) (by decide) (by decide) k) ?_
    have q8 : first.toInt ≤ low.toInt := by
     have r1 := rng32 low
     have r2 := rng32 step
     have e3 := c_iadd (low) (step)
     have r3 := rng32 ((low + step))
     have r4 := rng32 lim
     have e5 := c_isub (lim) (low)
     have r5 := rng32 ((lim - low))
     have d0 : step.toInt < ((lim - low)).toInt := Int32.lt_iff_toInt_lt.mp c0
     have d2 : ¬ (lim.toInt < ((low + step)).toInt) := mt Int32.lt_iff_toInt_lt.mpr c2
     omega
    have q9 : low.toInt ≤ ((low + step)).toInt := by
     have r1 := rng32 low
     have r2 := rng32 step
     have e3 := c_iadd (low) (step)
     have r3 := rng32 ((low + step))
     have r4 := rng32 lim
     have e5 := c_isub (lim) (low)
     have r5 := rng32 ((lim - low))
     have d0 : step.toInt < ((lim - low)).toInt := Int32.lt_iff_toInt_lt.mp c0
     have d2 : ¬ (lim.toInt < ((low + step)).toInt) := mt Int32.lt_iff_toInt_lt.mpr c2
     omega
    have q10 : low.toInt < lim.toInt := by
     have r1 := rng32 low
     have r2 := rng32 step
     have e3 := c_iadd (low) (step)
     have r3 := rng32 ((low + step))
     have r4 := rng32 lim
     have e5 := c_isub (lim) (low)
     have r5 := rng32 ((lim - low))
     have d0 : step.toInt < ((lim - low)).toInt := Int32.lt_iff_toInt_lt.mp c0
     have d2 : ¬ (lim.toInt < ((low + step)).toInt) := mt Int32.lt_iff_toInt_lt.mpr c2
     omega
    have q11 : ((low + step)).toInt ≤ lim.toInt := by
     have r1 := rng32 low
     have r2 := rng32 step
     have e3 := c_iadd (low) (step)
     have r3 := rng32 ((low + step))
     have r4 := rng32 lim
     have e5 := c_isub (lim) (low)
     have r5 := rng32 ((lim - low))
     have d0 : step.toInt < ((lim - low)).toInt := Int32.lt_iff_toInt_lt.mp c0
     have d2 : ¬ (lim.toInt < ((low + step)).toInt) := mt Int32.lt_iff_toInt_lt.mpr c2
     omega
    have q12 : ((low + step)).toInt - low.toInt + 1 ≤ (100 : Nat) := by
     have r1 := rng32 low
     have r2 := rng32 step
     have e3 := c_iadd (low) (step)
     have r3 := rng32 ((low + step))
     have r4 := rng32 lim
     have e5 := c_isub (lim) (low)
     have r5 := rng32 ((lim - low))
     have d0 : step.toInt < ((lim - low)).toInt := Int32.lt_iff_toInt_lt.mp c0
     have d2 : ¬ (lim.toInt < ((low + step)).toInt) := mt Int32.lt_iff_toInt_lt.mpr c2
     omega
    exact o_place3 Z a0 hw t n first lim frm time xs h0 A0 b1 b2 b3 b4 b5 hx hby hml hZ hown hret hlk 100 low ((low + step)) (step) X2 e2 q8 q9 q10 q11 q12 (fun _ => hl)
  ·refine o_q T (o_f2 m 37 t first lim frm time low step []) (fun _ k => XS.ifNo X0.here hx rfl (hb hby o_d14_34) rfl ((if0 _ _).trans (flt (mt (lw_gt _ _).mp c1)).2.2.1) k) ?_
   refine o_q T (o_f2 m 39 t first lim frm time low step [(.int low)]) (fun _ k => XS.iload X0.here hx rfl (hb hby o_d14_37) rfl k) ?_
   refine o_q T (o_f2 m 41 t first lim frm time low step [(.int step), (.int low)]) (fun _ k => XS.iload X0.here hx rfl (hb hby o_d14_39) rfl k) ?_
   refine o_q T (o_f2 m 42 t first lim frm time low step [(.int (low + step))]) (fun _ k => XS.iadd X0.here hx rfl (hb hby o_d14_41) rfl k) ?_
   refine o_q T (o_f2 m 44 t first lim frm time (low + step) step []) (fun _ k => XS.istore X0.here hx rfl (hb hby o_d14_42) rfl (l' := (o_t2 t first lim frm time (low + step) step)) rfl k) ?_
   refine o_q T (o_f2 m 45 t first lim frm time (low + step) step [(.int (2 : Int32))]) (fun _ k => XS.iconst X0.here hx rfl (hb hby o_d14_44) k) ?_
   refine o_q T (o_f2 m 47 t first lim frm time (low + step) step [(.int step), (.int (2 : Int32))]) (fun _ k => XS.iload X0.here hx rfl (hb hby o_d14_45) rfl k) ?_
   refine o_q T (o_f2 m 48 t first lim frm time (low + step) step [(.int ((2 : Int32) * step))]) (fun _ k => XS.imul X0.here hx rfl (hb hby o_d14_47) rfl k) ?_
   refine o_q T (o_f2 m 49 t first lim frm time (low + step) step [(.int lim), (.int ((2 : Int32) * step))]) (fun _ k => XS.iloadN X0.here hx rfl (hb hby o_d14_48) rfl k) ?_
   refine o_q T (o_f2 m 51 t first lim frm time (low + step) step [(.int (low + step)), (.int lim), (.int ((2 : Int32) * step))]) (fun _ k => XS.iload X0.here hx rfl (hb hby o_d14_49) rfl k) ?_
   refine o_q T (o_f2 m 52 t first lim frm time (low + step) step [(.int (lim - (low + step))), (.int ((2 : Int32) * step))]) (fun _ k => XS.isub X0.here hx rfl (hb hby o_d14_51) rfl k) ?_
   obtain ⟨v13, T13, L13, hQ13, X13, st13⟩ := o_callS X0 hx hZ e0 hown (o_m hw 110 rfl) (o_m hw 111 rfl) (by decide) (o_m hw 112 rfl) (o_m hw 2 rfl) (o_k15_1 l Z a0 hw ((2 : Int32) * step) (lim - (low + step)) h0 ) (g := (o_f2 m 52 t first lim frm time (low + step) step [(.int (lim - (low + step))), (.int ((2 : Int32) * step))])) rfl (by rw [hml]; rfl) rfl (argsL := [(.int ((2 : Int32) * step)), (.int (lim - (low + step)))]) (rest := []) rfl (lenOf o_pd3 rfl) rfl (hb hby o_d14_52) (o_b rfl) (o_b rfl) (o_b rfl) (o_b rfl)
   obtain ⟨rfl, rfl, e13⟩ := hQ13
   rw [List.append_nil] at X13
   by_cases c2 : (lim - (low + step)) < ((2 : Int32) * step)
   ·rw [if_pos c2] at st13
    refine o_q T13 (o_f2 m 55 t first lim frm time (low + step) step [(.int (lim - (low + step)))]) st13 ?_
    refine o_q T13 (o_f2 m 57 t first lim frm time (low + step) (lim - (low + step)) []) (fun _ k => XS.istore X13.here hx rfl (hb hby o_d14_55) rfl (l' := (o_t2 t first lim frm time (low + step) (lim - (low + step)))) rfl k) ?_
    refine o_q T13 (o_f2 m 15 t first lim frm time (low + step) (lim - (low + step)) []) (fun _ k => XS.goto X13.here hx rfl (pc0 := 57) (pc' := 15) rfl (hb hby o_d14_57) (by decide) (by decide) k) ?_
    have q14 : first.toInt ≤ ((low + step)).toInt := by
     have r1 := rng32 low
     have r2 := rng32 step
     have e3 := c_iadd (low) (step)
     have r3 := rng32 ((low + step))
     have r4 := rng32 lim
     have e5 := c_isub (lim) ((low + step))
     have r5 := rng32 ((lim - (low + step)))
     have e6 := c_isub (lim) (low)
     have r6 := rng32 ((lim - low))
     have k7 : (2 : Int32).toInt = 2 := by decide
     have e8 := c_imul ((2 : Int32)) (step)
     have r8 := rng32 (((2 : Int32) * step))
     rw [show (2 : Int32).toInt = 2 from by decide] at e8
     have d0 : step.toInt < ((lim - low)).toInt := Int32.lt_iff_toInt_lt.mp c0
     have d2 : ((lim - (low + step))).toInt < (((2 : Int32) * step)).toInt := Int32.lt_iff_toInt_lt.mp c2
     omega
    have q15 : ((low + step)).toInt < lim.toInt := by
     have r1 := rng32 low
     have r2 := rng32 step
     have e3 := c_iadd (low) (step)
     have r3 := rng32 ((low + step))
     have r4 := rng32 lim
     have e5 := c_isub (lim) ((low + step))
     have r5 := rng32 ((lim - (low + step)))
     have e6 := c_isub (lim) (low)
     have r6 := rng32 ((lim - low))
     have k7 : (2 : Int32).toInt = 2 := by decide
     have e8 := c_imul ((2 : Int32)) (step)
     have r8 := rng32 (((2 : Int32) * step))
     rw [show (2 : Int32).toInt = 2 from by decide] at e8
     have d0 : step.toInt < ((lim - low)).toInt := Int32.lt_iff_toInt_lt.mp c0
     have d2 : ((lim - (low + step))).toInt < (((2 : Int32) * step)).toInt := Int32.lt_iff_toInt_lt.mp c2
     omega
    have q16 : 1 ≤ ((lim - (low + step))).toInt := by
     have r1 := rng32 low
     have r2 := rng32 step
     have e3 := c_iadd (low) (step)
     have r3 := rng32 ((low + step))
     have r4 := rng32 lim
     have e5 := c_isub (lim) ((low + step))
     have r5 := rng32 ((lim - (low + step)))
     have e6 := c_isub (lim) (low)
     have r6 := rng32 ((lim - low))
     have k7 : (2 : Int32).toInt = 2 := by decide
     have e8 := c_imul ((2 : Int32)) (step)
     have r8 := rng32 (((2 : Int32) * step))
     rw [show (2 : Int32).toInt = 2 from by decide] at e8
     have d0 : step.toInt < ((lim - low)).toInt := Int32.lt_iff_toInt_lt.mp c0
     have d2 : ((lim - (low + step))).toInt < (((2 : Int32) * step)).toInt := Int32.lt_iff_toInt_lt.mp c2
     omega
    have q17 : ((lim - (low + step))).toInt ≤ lim.toInt - ((low + step)).toInt := by
     have r1 := rng32 low
     have r2 := rng32 step
     have e3 := c_iadd (low) (step)
     have r3 := rng32 ((low + step))
     have r4 := rng32 lim
     have e5 := c_isub (lim) ((low + step))
     have r5 := rng32 ((lim - (low + step)))
     have e6 := c_isub (lim) (low)
     have r6 := rng32 ((lim - low))
     have k7 : (2 : Int32).toInt = 2 := by decide
     have e8 := c_imul ((2 : Int32)) (step)
     have r8 := rng32 (((2 : Int32) * step))
     rw [show (2 : Int32).toInt = 2 from by decide] at e8
     have d0 : step.toInt < ((lim - low)).toInt := Int32.lt_iff_toInt_lt.mp c0
     have d2 : ((lim - (low + step))).toInt < (((2 : Int32) * step)).toInt := Int32.lt_iff_toInt_lt.mp c2
     omega
    have q18 : lim.toInt - ((low + step)).toInt ≤ (k : Int) := by
     have r1 := rng32 low
     have r2 := rng32 step
     have e3 := c_iadd (low) (step)
     have r3 := rng32 ((low + step))
     have r4 := rng32 lim
     have e5 := c_isub (lim) ((low + step))
     have r5 := rng32 ((lim - (low + step)))
     have e6 := c_isub (lim) (low)
     have r6 := rng32 ((lim - low))
     have k7 : (2 : Int32).toInt = 2 := by decide
     have e8 := c_imul ((2 : Int32)) (step)
     have r8 := rng32 (((2 : Int32) * step))
     rw [show (2 : Int32).toInt = 2 from by decide] at e8
     have d0 : step.toInt < ((lim - low)).toInt := Int32.lt_iff_toInt_lt.mp c0
     have d2 : ((lim - (low + step))).toInt < (((2 : Int32) * step)).toInt := Int32.lt_iff_toInt_lt.mp c2
     omega
    exact ih (low + step) ((lim - (low + step))) X13 e13 q14 q15 q16 q17 q18 c1
   ·rw [if_neg c2] at st13
    refine o_q T13 (o_f2 m 55 t first lim frm time (low + step) step [(.int ((2 : Int32) * step))]) st13 ?_
    refine o_q T13 (o_f2 m 57 t first lim frm time (low + step) ((2 : Int32) * step) []) (fun _ k => XS.istore X13.here hx rfl (hb hby o_d14_55) rfl (l' := (o_t2 t first lim frm time (low + step) ((2 : Int32) * step))) rfl k) ?_
    refine o_q T13 (o_f2 m 15 t first lim frm time (low + step) ((2 : Int32) * step) []) (fun _ k => XS.goto X13.here hx rfl (pc0 := 57) (pc' := 15) rfl (hb hby o_d14_57) (by decide) (by decide) k) ?_
    have q19 : first.toInt ≤ ((low + step)).toInt := by
     have r1 := rng32 low
     have r2 := rng32 step
     have e3 := c_iadd (low) (step)
     have r3 := rng32 ((low + step))
     have k4 : (2 : Int32).toInt = 2 := by decide
     have e5 := c_imul ((2 : Int32)) (step)
     have r5 := rng32 (((2 : Int32) * step))
     rw [show (2 : Int32).toInt = 2 from by decide] at e5
     have r6 := rng32 lim
     have e7 := c_isub (lim) (low)
     have r7 := rng32 ((lim - low))
     have e8 := c_isub (lim) ((low + step))
     have r8 := rng32 ((lim - (low + step)))
     have d0 : step.toInt < ((lim - low)).toInt := Int32.lt_iff_toInt_lt.mp c0
     have d2 : ¬ (((lim - (low + step))).toInt < (((2 : Int32) * step)).toInt) := mt Int32.lt_iff_toInt_lt.mpr c2
     omega
    have q20 : ((low + step)).toInt < lim.toInt := by
     have r1 := rng32 low
     have r2 := rng32 step
     have e3 := c_iadd (low) (step)
     have r3 := rng32 ((low + step))
     have k4 : (2 : Int32).toInt = 2 := by decide
     have e5 := c_imul ((2 : Int32)) (step)
     have r5 := rng32 (((2 : Int32) * step))
     rw [show (2 : Int32).toInt = 2 from by decide] at e5
     have r6 := rng32 lim
     have e7 := c_isub (lim) (low)
     have r7 := rng32 ((lim - low))
     have e8 := c_isub (lim) ((low + step))
     have r8 := rng32 ((lim - (low + step)))
     have d0 : step.toInt < ((lim - low)).toInt := Int32.lt_iff_toInt_lt.mp c0
     have d2 : ¬ (((lim - (low + step))).toInt < (((2 : Int32) * step)).toInt) := mt Int32.lt_iff_toInt_lt.mpr c2
     omega
    have q21 : 1 ≤ (((2 : Int32) * step)).toInt := by
     have r1 := rng32 low
     have r2 := rng32 step
     have e3 := c_iadd (low) (step)
     have r3 := rng32 ((low + step))
     have k4 : (2 : Int32).toInt = 2 := by decide
     have e5 := c_imul ((2 : Int32)) (step)
     have r5 := rng32 (((2 : Int32) * step))
     rw [show (2 : Int32).toInt = 2 from by decide] at e5
     have r6 := rng32 lim
     have e7 := c_isub (lim) (low)
     have r7 := rng32 ((lim - low))
     have e8 := c_isub (lim) ((low + step))
     have r8 := rng32 ((lim - (low + step)))
     have d0 : step.toInt < ((lim - low)).toInt := Int32.lt_iff_toInt_lt.mp c0
     have d2 : ¬ (((lim - (low + step))).toInt < (((2 : Int32) * step)).toInt) := mt Int32.lt_iff_toInt_lt.mpr c2
     omega
    have q22 : (((2 : Int32) * step)).toInt ≤ lim.toInt - ((low + step)).toInt := by
     have r1 := rng32 low
     have r2 := rng32 step
     have e3 := c_iadd (low) (step)
     have r3 := rng32 ((low + step))
     have k4 : (2 : Int32).toInt = 2 := by decide
     have e5 := c_imul ((2 : Int32)) (step)
     have r5 := rng32 (((2 : Int32) * step))
     rw [show (2 : Int32).toInt = 2 from by decide] at e5
     have r6 := rng32 lim
     have e7 := c_isub (lim) (low)
     have r7 := rng32 ((lim - low))
     have e8 := c_isub (lim) ((low + step))
     have r8 := rng32 ((lim - (low + step)))
     have d0 : step.toInt < ((lim - low)).toInt := Int32.lt_iff_toInt_lt.mp c0
     have d2 : ¬ (((lim - (low + step))).toInt < (((2 : Int32) * step)).toInt) := mt Int32.lt_iff_toInt_lt.mpr c2
     omega
    have q23 : lim.toInt - ((low + step)).toInt ≤ (k : Int) := by
     have r1 := rng32 low
     have r2 := rng32 step
     have e3 := c_iadd (low) (step)
     have r3 := rng32 ((low + step))
     have k4 : (2 : Int32).toInt = 2 := by decide
     have e5 := c_imul ((2 : Int32)) (step)
     have r5 := rng32 (((2 : Int32) * step))
     rw [show (2 : Int32).toInt = 2 from by decide] at e5
     have r6 := rng32 lim
     have e7 := c_isub (lim) (low)
     have r7 := rng32 ((lim - low))
     have e8 := c_isub (lim) ((low + step))
     have r8 := rng32 ((lim - (low + step)))
     have d0 : step.toInt < ((lim - low)).toInt := Int32.lt_iff_toInt_lt.mp c0
     have d2 : ¬ (((lim - (low + step))).toInt < (((2 : Int32) * step)).toInt) := mt Int32.lt_iff_toInt_lt.mpr c2
     omega
    exact ih (low + step) (((2 : Int32) * step)) X13 e13 q19 q20 q21 q22 q23 c1
 ·refine o_q T (o_f2 m 60 t first lim frm time low step []) (fun _ k => XS.icmpYes X0.here hx rfl (pc0 := 21) (pc' := 60) rfl (hb hby o_d14_21) rfl (flt c0).2.1 (by decide) (by decide) k) ?_
  refine o_q T (o_f2 m 62 t first lim frm time low step [(.int low)]) (fun _ k => XS.iload X0.here hx rfl (hb hby o_d14_60) rfl k) ?_
  refine o_q T (o_f2 m 64 t first lim frm time low step [(.int step), (.int low)]) (fun _ k => XS.iload X0.here hx rfl (hb hby o_d14_62) rfl k) ?_
  refine o_q T (o_f2 m 65 t first lim frm time low step [(.int (low + step))]) (fun _ k => XS.iadd X0.here hx rfl (hb hby o_d14_64) rfl k) ?_
  refine o_q T (o_f2 m 66 t first lim frm time low step [(.int lim), (.int (low + step))]) (fun _ k => XS.iloadN X0.here hx rfl (hb hby o_d14_65) rfl k) ?_
  obtain ⟨v24, T24, L24, hQ24, X24, st24⟩ := o_callS X0 hx hZ e0 hown (o_m hw 110 rfl) (o_m hw 111 rfl) (by decide) (o_m hw 112 rfl) (o_m hw 2 rfl) (o_k15_1 l Z a0 hw (low + step) lim h0 ) (g := (o_f2 m 66 t first lim frm time low step [(.int lim), (.int (low + step))])) rfl (by rw [hml]; rfl) rfl (argsL := [(.int (low + step)), (.int lim)]) (rest := []) rfl (lenOf o_pd3 rfl) rfl (hb hby o_d14_66) (o_b rfl) (o_b rfl) (o_b rfl) (o_b rfl)
  obtain ⟨rfl, rfl, e24⟩ := hQ24
  rw [List.append_nil] at X24
  by_cases c1 : lim < (low + step)
  ·rw [if_pos c1] at st24
   refine o_q T24 (o_f2 m 69 t first lim frm time low step [(.int lim)]) st24 ?_
   refine o_q T24 (o_f0 m 71 t first lim frm time low lim step []) (fun _ k => XS.istore X24.here hx rfl (hb hby o_d14_69) rfl (l' := (o_t0 t first lim frm time low lim step)) rfl k) ?_
   refine o_q T24 (o_f0 m 136 t first lim frm time low lim step []) (fun _ k => XS.goto X24.here hx rfl (pc0 := 71) (pc' := 136) rfl (hb hby o_d14_71) (by decide) (by decide) k) ?_
   have q25 : first.toInt ≤ low.toInt := by
    have r1 := rng32 low
    have r2 := rng32 lim
    have r3 := rng32 step
    have e4 := c_isub (lim) (low)
    have r4 := rng32 ((lim - low))
    have e5 := c_iadd (low) (step)
    have r5 := rng32 ((low + step))
    have d0 : ¬ (step.toInt < ((lim - low)).toInt) := mt Int32.lt_iff_toInt_lt.mpr c0
    have d1 : lim.toInt < ((low + step)).toInt := Int32.lt_iff_toInt_lt.mp c1
    omega
   have q26 : low.toInt ≤ lim.toInt := by
    have r1 := rng32 low
    have r2 := rng32 lim
    have r3 := rng32 step
    have e4 := c_isub (lim) (low)
    have r4 := rng32 ((lim - low))
    have e5 := c_iadd (low) (step)
    have r5 := rng32 ((low + step))
    have d0 : ¬ (step.toInt < ((lim - low)).toInt) := mt Int32.lt_iff_toInt_lt.mpr c0
    have d1 : lim.toInt < ((low + step)).toInt := Int32.lt_iff_toInt_lt.mp c1
    omega
   have q27 : low.toInt < lim.toInt := by
    have r1 := rng32 low
    have r2 := rng32 lim
    have r3 := rng32 step
    have e4 := c_isub (lim) (low)
    have r4 := rng32 ((lim - low))
    have e5 := c_iadd (low) (step)
    have r5 := rng32 ((low + step))
    have d0 : ¬ (step.toInt < ((lim - low)).toInt) := mt Int32.lt_iff_toInt_lt.mpr c0
    have d1 : lim.toInt < ((low + step)).toInt := Int32.lt_iff_toInt_lt.mp c1
    omega
   have q28 : lim.toInt ≤ lim.toInt := by
    have r1 := rng32 low
    have r2 := rng32 lim
    have r3 := rng32 step
    have e4 := c_isub (lim) (low)
    have r4 := rng32 ((lim - low))
    have e5 := c_iadd (low) (step)
    have r5 := rng32 ((low + step))
    have d0 : ¬ (step.toInt < ((lim - low)).toInt) := mt Int32.lt_iff_toInt_lt.mpr c0
    have d1 : lim.toInt < ((low + step)).toInt := Int32.lt_iff_toInt_lt.mp c1
    omega
   have q29 : lim.toInt - low.toInt + 1 ≤ (100 : Nat) := by
    have r1 := rng32 low
    have r2 := rng32 lim
    have r3 := rng32 step
    have e4 := c_isub (lim) (low)
    have r4 := rng32 ((lim - low))
    have e5 := c_iadd (low) (step)
    have r5 := rng32 ((low + step))
    have d0 : ¬ (step.toInt < ((lim - low)).toInt) := mt Int32.lt_iff_toInt_lt.mpr c0
    have d1 : lim.toInt < ((low + step)).toInt := Int32.lt_iff_toInt_lt.mp c1
    omega
   exact o_place3 Z a0 hw t n first lim frm time xs h0 A0 b1 b2 b3 b4 b5 hx hby hml hZ hown hret hlk 100 low lim (step) X24 e24 q25 q26 q27 q28 q29 (fun _ => hl)
  ·rw [if_neg c1] at st24
   refine o_q T24 (o_f2 m 69 t first lim frm time low step [(.int (low + step))]) st24 ?_
   refine o_q T24 (o_f0 m 71 t first lim frm time low (low + step) step []) (fun _ k => XS.istore X24.here hx rfl (hb hby o_d14_69) rfl (l' := (o_t0 t first lim frm time low (low + step) step)) rfl k) ?_
   refine o_q T24 (o_f0 m 136 t first lim frm time low (low + step) step []) (fun _ k => XS.goto X24.here hx rfl (pc0 := 71) (pc' := 136) rfl (hb hby o_d14_71) (by decide) (by decide) k) ?_
   have q30 : first.toInt ≤ low.toInt := by
    have r1 := rng32 low
    have r2 := rng32 step
    have e3 := c_iadd (low) (step)
    have r3 := rng32 ((low + step))
    have r4 := rng32 lim
    have e5 := c_isub (lim) (low)
    have r5 := rng32 ((lim - low))
    have d0 : ¬ (step.toInt < ((lim - low)).toInt) := mt Int32.lt_iff_toInt_lt.mpr c0
    have d1 : ¬ (lim.toInt < ((low + step)).toInt) := mt Int32.lt_iff_toInt_lt.mpr c1
    omega
   have q31 : low.toInt ≤ ((low + step)).toInt := by
    have r1 := rng32 low
    have r2 := rng32 step
    have e3 := c_iadd (low) (step)
    have r3 := rng32 ((low + step))
    have r4 := rng32 lim
    have e5 := c_isub (lim) (low)
    have r5 := rng32 ((lim - low))
    have d0 : ¬ (step.toInt < ((lim - low)).toInt) := mt Int32.lt_iff_toInt_lt.mpr c0
    have d1 : ¬ (lim.toInt < ((low + step)).toInt) := mt Int32.lt_iff_toInt_lt.mpr c1
    omega
   have q32 : low.toInt < lim.toInt := by
    have r1 := rng32 low
    have r2 := rng32 step
    have e3 := c_iadd (low) (step)
    have r3 := rng32 ((low + step))
    have r4 := rng32 lim
    have e5 := c_isub (lim) (low)
    have r5 := rng32 ((lim - low))
    have d0 : ¬ (step.toInt < ((lim - low)).toInt) := mt Int32.lt_iff_toInt_lt.mpr c0
    have d1 : ¬ (lim.toInt < ((low + step)).toInt) := mt Int32.lt_iff_toInt_lt.mpr c1
    omega
   have q33 : ((low + step)).toInt ≤ lim.toInt := by
    have r1 := rng32 low
    have r2 := rng32 step
    have e3 := c_iadd (low) (step)
    have r3 := rng32 ((low + step))
    have r4 := rng32 lim
    have e5 := c_isub (lim) (low)
    have r5 := rng32 ((lim - low))
    have d0 : ¬ (step.toInt < ((lim - low)).toInt) := mt Int32.lt_iff_toInt_lt.mpr c0
    have d1 : ¬ (lim.toInt < ((low + step)).toInt) := mt Int32.lt_iff_toInt_lt.mpr c1
    omega
   have q34 : ((low + step)).toInt - low.toInt + 1 ≤ (100 : Nat) := by
    have r1 := rng32 low
    have r2 := rng32 step
    have e3 := c_iadd (low) (step)
    have r3 := rng32 ((low + step))
    have r4 := rng32 lim
    have e5 := c_isub (lim) (low)
    have r5 := rng32 ((lim - low))
    have d0 : ¬ (step.toInt < ((lim - low)).toInt) := mt Int32.lt_iff_toInt_lt.mpr c0
    have d1 : ¬ (lim.toInt < ((low + step)).toInt) := mt Int32.lt_iff_toInt_lt.mpr c1
    omega
   exact o_place3 Z a0 hw t n first lim frm time xs h0 A0 b1 b2 b3 b4 b5 hx hby hml hZ hown hret hlk 100 low ((low + step)) (step) X24 e24 q30 q31 q32 q33 q34 (fun _ => hl)
theorem o_d14_80 : decode o_y0 80 = .ok (.iload 8, 2) := by decide +kernel
theorem o_d14_82 : decode o_y0 82 = .ok (.iload 7, 2) := by decide +kernel
theorem o_d14_84 : decode o_y0 84 = .ok (.iload_n 1, 1) := by decide +kernel
theorem o_d14_85 : decode o_y0 85 = .ok (.isub, 1) := by decide +kernel
theorem o_d14_86 : decode o_y0 86 = .ok (.if_icmp .ge 39, 3) := by decide +kernel
theorem o_d14_89 : decode o_y0 89 = .ok (.aload_n 0, 1) := by decide +kernel
theorem o_d14_90 : decode o_y0 90 = .ok (.iload 7, 2) := by decide +kernel
theorem o_d14_92 : decode o_y0 92 = .ok (.iload 8, 2) := by decide +kernel
theorem o_d14_94 : decode o_y0 94 = .ok (.isub, 1) := by decide +kernel
theorem o_d14_95 : decode o_y0 95 = .ok (.laload, 1) := by decide +kernel
theorem o_d14_96 : decode o_y0 96 = .ok (.lload 4, 2) := by decide +kernel
theorem o_d14_98 : decode o_y0 98 = .ok (.lcmp, 1) := by decide +kernel
theorem o_d14_99 : decode o_y0 99 = .ok (.ifCond .le 26, 3) := by decide +kernel
theorem o_d14_102 : decode o_y0 102 = .ok (.iload 7, 2) := by decide +kernel
theorem o_d14_104 : decode o_y0 104 = .ok (.iload 8, 2) := by decide +kernel
theorem o_d14_106 : decode o_y0 106 = .ok (.isub, 1) := by decide +kernel
theorem o_d14_107 : decode o_y0 107 = .ok (.istore 7, 2) := by decide +kernel
theorem o_d14_109 : decode o_y0 109 = .ok (.iconst 2, 1) := by decide +kernel
theorem o_d14_110 : decode o_y0 110 = .ok (.iload 8, 2) := by decide +kernel
theorem o_d14_112 : decode o_y0 112 = .ok (.imul, 1) := by decide +kernel
theorem o_d14_113 : decode o_y0 113 = .ok (.iload 7, 2) := by decide +kernel
theorem o_d14_115 : decode o_y0 115 = .ok (.iload_n 1, 1) := by decide +kernel
theorem o_d14_116 : decode o_y0 116 = .ok (.isub, 1) := by decide +kernel
theorem o_d14_117 : decode o_y0 117 = .ok (.invokestatic 107, 3) := by decide +kernel
theorem o_d14_120 : decode o_y0 120 = .ok (.istore 8, 2) := by decide +kernel
theorem o_d14_122 : decode o_y0 122 = .ok (.goto (-42), 3) := by decide +kernel
theorem o_d14_125 : decode o_y0 125 = .ok (.iload_n 1, 1) := by decide +kernel
theorem o_d14_126 : decode o_y0 126 = .ok (.iload 7, 2) := by decide +kernel
theorem o_d14_128 : decode o_y0 128 = .ok (.iload 8, 2) := by decide +kernel
theorem o_d14_130 : decode o_y0 130 = .ok (.isub, 1) := by decide +kernel
theorem o_d14_131 : decode o_y0 131 = .ok (.invokestatic 92, 3) := by decide +kernel
theorem o_d22_0 : decode o_y2 0 = .ok (.iload_n 0, 1) := by decide +kernel
theorem o_d22_1 : decode o_y2 1 = .ok (.iload_n 1, 1) := by decide +kernel
theorem o_d22_2 : decode o_y2 2 = .ok (.if_icmp .lt 7, 3) := by decide +kernel
theorem o_d22_9 : decode o_y2 9 = .ok (.iload_n 1, 1) := by decide +kernel
theorem o_d22_10 : decode o_y2 10 = .ok (.ireturn, 1) := by decide +kernel
theorem o_d22_5 : decode o_y2 5 = .ok (.iload_n 0, 1) := by decide +kernel
theorem o_d22_6 : decode o_y2 6 = .ok (.goto 4, 3) := by decide +kernel
theorem o_pn22 : plainFor (⟨"java/lang/Math", "max", "(II)I"⟩ : MethodName) = true := Jvm.Free.JP.mathPlain rfl (by decide +kernel)
set_option maxRecDepth 65536 in
set_option maxHeartbeats 40000000 in
theorem o_k22_2 (l : Launch) (Z : State) (a0 : Array Value) (hw : ∀ d ∈ tables_1, d.before a0 Z = true) (p0 : Int32) (p1 : Int32) (h0 : Heap)  :
  o_C l (⟨"java/lang/Math", "max", "(II)I"⟩ : MethodName) o_y2 2 (some .int) (o_R 0 0 0 0) Z h0 #[(.int p0), (.int p1)] (o_P (some (if p0 < p1 then (.int p1) else (.int p0))) h0) := by
 refine o_body o_pn22 ?_
 intro p e s m below meth c s₁ hx hby hml hZ hown hnm hret hlk X0 e0
 refine o_cast (f' := (o_f1 m 0 p0 p1 [])) (by first | (simp [entryFrame, mkF, argsToLocals, Value.category, maxLocals]; done) | rfl) ?_
 refine o_q s₁ (o_f1 m 1 p0 p1 [(.int p0)]) (fun _ k => XS.iloadN X0.here hx rfl (hb hby o_d22_0) rfl k) ?_
 refine o_q s₁ (o_f1 m 2 p0 p1 [(.int p1), (.int p0)]) (fun _ k => XS.iloadN X0.here hx rfl (hb hby o_d22_1) rfl k) ?_
 by_cases c0 : p0 < p1
 ·refine o_q s₁ (o_f1 m 9 p0 p1 []) (fun _ k => XS.icmpYes X0.here hx rfl (pc0 := 2) (pc' := 9) rfl (hb hby o_d22_2) rfl (tlt c0).1 (by decide) (by decide) k) ?_
  refine o_q s₁ (o_f1 m 10 p0 p1 [(.int p1)]) (fun _ k => XS.iloadN X0.here hx rfl (hb hby o_d22_9) rfl k) ?_
  exact o_retI X0 hx hlk hret (hb hby o_d22_10) ⟨by simp only [if_pos c0], rfl, e0⟩ (by decide) (by decide)
 ·refine o_q s₁ (o_f1 m 5 p0 p1 []) (fun _ k => XS.icmpNo X0.here hx rfl (hb hby o_d22_2) rfl (flt c0).1 k) ?_
  refine o_q s₁ (o_f1 m 6 p0 p1 [(.int p0)]) (fun _ k => XS.iloadN X0.here hx rfl (hb hby o_d22_5) rfl k) ?_
  refine o_q s₁ (o_f1 m 10 p0 p1 [(.int p0)]) (fun _ k => XS.goto X0.here hx rfl (pc0 := 6) (pc' := 10) rfl (hb hby o_d22_6) (by decide) (by decide) k) ?_
  exact o_retI X0 hx hlk hret (hb hby o_d22_10) ⟨by simp only [if_neg c0], rfl, e0⟩ (by decide) (by decide)
theorem o_d14_134 : decode o_y0 134 = .ok (.istore 6, 2) := by decide +kernel
set_option maxRecDepth 65536 in
set_option maxHeartbeats 40000000 in
theorem o_place2 {p : Program} {l : Launch} {e : Env} {s : State} {m : MethodId} {below : List Frame} {meth : Method} {c : Code} (Z : State) (a0 : Array Value) (hw : ∀ d ∈ tables_1, d.before a0 Z = true) (t : Addr) (n first lim frm : Int32) (time : Int64) (xs : Nat → Int64) (h0 : Heap) (A0 : o_LA Z h0 t n xs) (b1 : 0 ≤ first.toInt) (b2 : first.toInt ≤ frm.toInt) (b3 : frm.toInt < lim.toInt) (b4 : lim.toInt ≤ n.toInt) (b5 : n.toInt ≤ 64)
  (hx : p.tables.exec = Jvm.exec) (hby : c.code = o_y0) (hml : c.maxLocals = 9) (hZ : Z.Warmed39 s.vm) (hown : s.vm.findClass o_n1 = some m.cls) (hret : meth.sig.returnType = (some .int)) (hlk : meth.locks = false) :
  ∀ (k : Nat) (high step : Int32) {T : State} (X0 : Stand p l e (o_R 1 0 0 13) s m #[(.ref t), (.int first), (.int lim), (.int frm), (.long time)] below meth c T [] 0 0) (e0 : T.heap = h0), first.toInt ≤ high.toInt → high.toInt < lim.toInt → 1 ≤ step.toInt → step.toInt ≤ 100 → high.toInt - first.toInt + 1 ≤ (k : Int) → o_G p e below s (fun v h L => ∃ r : Int32, v = some (.int r) ∧ L = [] ∧ h = h0 ∧ first.toInt ≤ r.toInt ∧ r.toInt < lim.toInt ∧ (¬ time < xs first.toNatClampNeg → ¬ time < xs r.toNatClampNeg)) 0 0 T (o_f3 m 80 t first lim frm time high step []) := by
 intro k
 induction k with
 | zero => intro high step  T X0 e0 g1 g2 g3 g4 g5; exfalso; omega
 | succ k ih =>
 intro high step  T X0 e0 g1 g2 g3 g4 g5
 refine o_q T (o_f3 m 82 t first lim frm time high step [(.int step)]) (fun _ k => XS.iload X0.here hx rfl (hb hby o_d14_80) rfl k) ?_
 refine o_q T (o_f3 m 84 t first lim frm time high step [(.int high), (.int step)]) (fun _ k => XS.iload X0.here hx rfl (hb hby o_d14_82) rfl k) ?_
 refine o_q T (o_f3 m 85 t first lim frm time high step [(.int first), (.int high), (.int step)]) (fun _ k => XS.iloadN X0.here hx rfl (hb hby o_d14_84) rfl k) ?_
 refine o_q T (o_f3 m 86 t first lim frm time high step [(.int (high - first)), (.int step)]) (fun _ k => XS.isub X0.here hx rfl (hb hby o_d14_85) rfl k) ?_
 by_cases c0 : step < (high - first)
 ·refine o_q T (o_f3 m 89 t first lim frm time high step []) (fun _ k => XS.icmpNo X0.here hx rfl (hb hby o_d14_86) rfl (tlt c0).2.1 k) ?_
  refine o_q T (o_f3 m 90 t first lim frm time high step [(.ref t)]) (fun _ k => XS.aloadN X0.here hx rfl (hb hby o_d14_89) rfl rfl k) ?_
  refine o_q T (o_f3 m 92 t first lim frm time high step [(.int high), (.ref t)]) (fun _ k => XS.iload X0.here hx rfl (hb hby o_d14_90) rfl k) ?_
  refine o_q T (o_f3 m 94 t first lim frm time high step [(.int step), (.int high), (.ref t)]) (fun _ k => XS.iload X0.here hx rfl (hb hby o_d14_92) rfl k) ?_
  refine o_q T (o_f3 m 95 t first lim frm time high step [(.int (high - step)), (.ref t)]) (fun _ k => XS.isub X0.here hx rfl (hb hby o_d14_94) rfl k) ?_
  have hin1 : ¬ ((high - step) < (0 : Int32)) ∧ (high - step) < n := by
   have r1 := rng32 high
   have r2 := rng32 step
   have e3 := c_isub (high) (step)
   have r3 := rng32 ((high - step))
   have r4 := rng32 n
   have k5 : (0 : Int32).toInt = 0 := by decide
   have r6 := rng32 first
   have e7 := c_isub (high) (first)
   have r7 := rng32 ((high - first))
   have d0 : step.toInt < ((high - first)).toInt := Int32.lt_iff_toInt_lt.mp c0
   rw [Int32.lt_iff_toInt_lt, Int32.lt_iff_toInt_lt]
   omega
  refine o_q T (o_f3 m 96 t first lim frm time high step [(.long (xs ((high - step)).toNatClampNeg))]) (fun _ k => o_ldJ X0 hx hZ e0 A0 hin1 (g := (o_f3 m 95 t first lim frm time high step [(.int (high - step)), (.ref t)])) rfl rfl (hb hby o_d14_95) _ k) ?_
  refine o_q T (o_f3 m 98 t first lim frm time high step [(.long time), (.long (xs ((high - step)).toNatClampNeg))]) (fun _ k => XS.lload X0.here hx rfl (hb hby o_d14_96) rfl k) ?_
  refine o_q T (o_f3 m 99 t first lim frm time high step [(.int (lcmpW (xs ((high - step)).toNatClampNeg) time))]) (fun _ k => XS.lcmp X0.here hx rfl (hb hby o_d14_98) rfl k) ?_
  by_cases c1 : time < (xs ((high - step)).toNatClampNeg)
  ·refine o_q T (o_f3 m 102 t first lim frm time high step []) (fun _ k => XS.ifNo X0.here hx rfl (hb hby o_d14_99) rfl ((if0 _ _).trans (tlt ((lw_gt _ _).mpr c1)).2.2.2) k) ?_
   refine o_q T (o_f3 m 104 t first lim frm time high step [(.int high)]) (fun _ k => XS.iload X0.here hx rfl (hb hby o_d14_102) rfl k) ?_
   refine o_q T (o_f3 m 106 t first lim frm time high step [(.int step), (.int high)]) (fun _ k => XS.iload X0.here hx rfl (hb hby o_d14_104) rfl k) ?_
   refine o_q T (o_f3 m 107 t first lim frm time high step [(.int (high - step))]) (fun _ k => XS.isub X0.here hx rfl (hb hby o_d14_106) rfl k) ?_
   refine o_q T (o_f3 m 109 t first lim frm time (high - step) step []) (fun _ k => XS.istore X0.here hx rfl (hb hby o_d14_107) rfl (l' := (o_t3 t first lim frm time (high - step) step)) rfl k) ?_
   refine o_q T (o_f3 m 110 t first lim frm time (high - step) step [(.int (2 : Int32))]) (fun _ k => XS.iconst X0.here hx rfl (hb hby o_d14_109) k) ?_
   refine o_q T (o_f3 m 112 t first lim frm time (high - step) step [(.int step), (.int (2 : Int32))]) (fun _ k => XS.iload X0.here hx rfl (hb hby o_d14_110) rfl k) ?_
   refine o_q T (o_f3 m 113 t first lim frm time (high - step) step [(.int ((2 : Int32) * step))]) (fun _ k => XS.imul X0.here hx rfl (hb hby o_d14_112) rfl k) ?_
   refine o_q T (o_f3 m 115 t first lim frm time (high - step) step [(.int (high - step)), (.int ((2 : Int32) * step))]) (fun _ k => XS.iload X0.here hx rfl (hb hby o_d14_113) rfl k) ?_
   refine o_q T (o_f3 m 116 t first lim frm time (high - step) step [(.int first), (.int (high - step)), (.int ((2 : Int32) * step))]) (fun _ k => XS.iloadN X0.here hx rfl (hb hby o_d14_115) rfl k) ?_
   refine o_q T (o_f3 m 117 t first lim frm time (high - step) step [(.int ((high - step) - first)), (.int ((2 : Int32) * step))]) (fun _ k => XS.isub X0.here hx rfl (hb hby o_d14_116) rfl k) ?_
   obtain ⟨v2, T2, L2, hQ2, X2, st2⟩ := o_callS X0 hx hZ e0 hown (o_m hw 110 rfl) (o_m hw 111 rfl) (by decide) (o_m hw 112 rfl) (o_m hw 2 rfl) (o_k15_1 l Z a0 hw ((2 : Int32) * step) ((high - step) - first) h0 ) (g := (o_f3 m 117 t first lim frm time (high - step) step [(.int ((high - step) - first)), (.int ((2 : Int32) * step))])) rfl (by rw [hml]; rfl) rfl (argsL := [(.int ((2 : Int32) * step)), (.int ((high - step) - first))]) (rest := []) rfl (lenOf o_pd3 rfl) rfl (hb hby o_d14_117) (o_b rfl) (o_b rfl) (o_b rfl) (o_b rfl)
   obtain ⟨rfl, rfl, e2⟩ := hQ2
   rw [List.append_nil] at X2
   by_cases c2 : ((high - step) - first) < ((2 : Int32) * step)
   ·rw [if_pos c2] at st2
    refine o_q T2 (o_f3 m 120 t first lim frm time (high - step) step [(.int ((high - step) - first))]) st2 ?_
    refine o_q T2 (o_f3 m 122 t first lim frm time (high - step) ((high - step) - first) []) (fun _ k => XS.istore X2.here hx rfl (hb hby o_d14_120) rfl (l' := (o_t3 t first lim frm time (high - step) ((high - step) - first))) rfl k) ?_
    refine o_q T2 (o_f3 m 80 t first lim frm time (high - step) ((high - step) - first) []) (fun _ k => XS.goto X2.here hx rfl (pc0 := 122) (pc' := 80) rfl (hb hby o_d14_122) (by decide) (by decide) k) ?_
    have q3 : first.toInt ≤ ((high - step)).toInt := by
     have r1 := rng32 high
     have r2 := rng32 step
     have e3 := c_isub (high) (step)
     have r3 := rng32 ((high - step))
     have r4 := rng32 first
     have e5 := c_isub ((high - step)) (first)
     have r5 := rng32 (((high - step) - first))
     have e6 := c_isub (high) (first)
     have r6 := rng32 ((high - first))
     have k7 : (2 : Int32).toInt = 2 := by decide
     have e8 := c_imul ((2 : Int32)) (step)
     have r8 := rng32 (((2 : Int32) * step))
     rw [show (2 : Int32).toInt = 2 from by decide] at e8
     have d0 : step.toInt < ((high - first)).toInt := Int32.lt_iff_toInt_lt.mp c0
     have d2 : (((high - step) - first)).toInt < (((2 : Int32) * step)).toInt := Int32.lt_iff_toInt_lt.mp c2
     omega
    have q4 : ((high - step)).toInt < lim.toInt := by
     have r1 := rng32 high
     have r2 := rng32 step
     have e3 := c_isub (high) (step)
     have r3 := rng32 ((high - step))
     have r4 := rng32 first
     have e5 := c_isub ((high - step)) (first)
     have r5 := rng32 (((high - step) - first))
     have e6 := c_isub (high) (first)
     have r6 := rng32 ((high - first))
     have k7 : (2 : Int32).toInt = 2 := by decide
     have e8 := c_imul ((2 : Int32)) (step)
     have r8 := rng32 (((2 : Int32) * step))
     rw [show (2 : Int32).toInt = 2 from by decide] at e8
     have d0 : step.toInt < ((high - first)).toInt := Int32.lt_iff_toInt_lt.mp c0
     have d2 : (((high - step) - first)).toInt < (((2 : Int32) * step)).toInt := Int32.lt_iff_toInt_lt.mp c2
     omega
    have q5 : 1 ≤ (((high - step) - first)).toInt := by
     have r1 := rng32 high
     have r2 := rng32 step
     have e3 := c_isub (high) (step)
     have r3 := rng32 ((high - step))
     have r4 := rng32 first
     have e5 := c_isub ((high - step)) (first)
     have r5 := rng32 (((high - step) - first))
     have e6 := c_isub (high) (first)
     have r6 := rng32 ((high - first))
     have k7 : (2 : Int32).toInt = 2 := by decide
     have e8 := c_imul ((2 : Int32)) (step)
     have r8 := rng32 (((2 : Int32) * step))
     rw [show (2 : Int32).toInt = 2 from by decide] at e8
     have d0 : step.toInt < ((high - first)).toInt := Int32.lt_iff_toInt_lt.mp c0
     have d2 : (((high - step) - first)).toInt < (((2 : Int32) * step)).toInt := Int32.lt_iff_toInt_lt.mp c2
     omega
    have q6 : (((high - step) - first)).toInt ≤ 100 := by
     have r1 := rng32 high
     have r2 := rng32 step
     have e3 := c_isub (high) (step)
     have r3 := rng32 ((high - step))
     have r4 := rng32 first
     have e5 := c_isub ((high - step)) (first)
     have r5 := rng32 (((high - step) - first))
     have e6 := c_isub (high) (first)
     have r6 := rng32 ((high - first))
     have k7 : (2 : Int32).toInt = 2 := by decide
     have e8 := c_imul ((2 : Int32)) (step)
     have r8 := rng32 (((2 : Int32) * step))
     rw [show (2 : Int32).toInt = 2 from by decide] at e8
     have d0 : step.toInt < ((high - first)).toInt := Int32.lt_iff_toInt_lt.mp c0
     have d2 : (((high - step) - first)).toInt < (((2 : Int32) * step)).toInt := Int32.lt_iff_toInt_lt.mp c2
     omega
    have q7 : ((high - step)).toInt - first.toInt + 1 ≤ (k : Int) := by
     have r1 := rng32 high
     have r2 := rng32 step
     have e3 := c_isub (high) (step)
     have r3 := rng32 ((high - step))
     have r4 := rng32 first
     have e5 := c_isub ((high - step)) (first)
     have r5 := rng32 (((high - step) - first))
     have e6 := c_isub (high) (first)
     have r6 := rng32 ((high - first))
     have k7 : (2 : Int32).toInt = 2 := by decide
     have e8 := c_imul ((2 : Int32)) (step)
     have r8 := rng32 (((2 : Int32) * step))
     rw [show (2 : Int32).toInt = 2 from by decide] at e8
     have d0 : step.toInt < ((high - first)).toInt := Int32.lt_iff_toInt_lt.mp c0
     have d2 : (((high - step) - first)).toInt < (((2 : Int32) * step)).toInt := Int32.lt_iff_toInt_lt.mp c2
     omega
    exact ih (high - step) (((high - step) - first)) X2 e2 q3 q4 q5 q6 q7
   ·rw [if_neg c2] at st2
    refine o_q T2 (o_f3 m 120 t first lim frm time (high - step) step [(.int ((2 : Int32) * step))]) st2 ?_
    refine o_q T2 (o_f3 m 122 t first lim frm time (high - step) ((2 : Int32) * step) []) (fun _ k => XS.istore X2.here hx rfl (hb hby o_d14_120) rfl (l' := (o_t3 t first lim frm time (high - step) ((2 : Int32) * step))) rfl k) ?_
    refine o_q T2 (o_f3 m 80 t first lim frm time (high - step) ((2 : Int32) * step) []) (fun _ k => XS.goto X2.here hx rfl (pc0 := 122) (pc' := 80) rfl (hb hby o_d14_122) (by decide) (by decide) k) ?_
    have q8 : first.toInt ≤ ((high - step)).toInt := by
     have r1 := rng32 high
     have r2 := rng32 step
     have e3 := c_isub (high) (step)
     have r3 := rng32 ((high - step))
     have k4 : (2 : Int32).toInt = 2 := by decide
     have e5 := c_imul ((2 : Int32)) (step)
     have r5 := rng32 (((2 : Int32) * step))
     rw [show (2 : Int32).toInt = 2 from by decide] at e5
     have r6 := rng32 first
     have e7 := c_isub (high) (first)
     have r7 := rng32 ((high - first))
     have e8 := c_isub ((high - step)) (first)
     have r8 := rng32 (((high - step) - first))
     have d0 : step.toInt < ((high - first)).toInt := Int32.lt_iff_toInt_lt.mp c0
     have d2 : ¬ ((((high - step) - first)).toInt < (((2 : Int32) * step)).toInt) := mt Int32.lt_iff_toInt_lt.mpr c2
     omega
    have q9 : ((high - step)).toInt < lim.toInt := by
     have r1 := rng32 high
     have r2 := rng32 step
     have e3 := c_isub (high) (step)
     have r3 := rng32 ((high - step))
     have k4 : (2 : Int32).toInt = 2 := by decide
     have e5 := c_imul ((2 : Int32)) (step)
     have r5 := rng32 (((2 : Int32) * step))
     rw [show (2 : Int32).toInt = 2 from by decide] at e5
     have r6 := rng32 first
     have e7 := c_isub (high) (first)
     have r7 := rng32 ((high - first))
     have e8 := c_isub ((high - step)) (first)
     have r8 := rng32 (((high - step) - first))
     have d0 : step.toInt < ((high - first)).toInt := Int32.lt_iff_toInt_lt.mp c0
     have d2 : ¬ ((((high - step) - first)).toInt < (((2 : Int32) * step)).toInt) := mt Int32.lt_iff_toInt_lt.mpr c2
     omega
    have q10 : 1 ≤ (((2 : Int32) * step)).toInt := by
     have r1 := rng32 high
     have r2 := rng32 step
     have e3 := c_isub (high) (step)
     have r3 := rng32 ((high - step))
     have k4 : (2 : Int32).toInt = 2 := by decide
     have e5 := c_imul ((2 : Int32)) (step)
     have r5 := rng32 (((2 : Int32) * step))
     rw [show (2 : Int32).toInt = 2 from by decide] at e5
     have r6 := rng32 first
     have e7 := c_isub (high) (first)
     have r7 := rng32 ((high - first))
     have e8 := c_isub ((high - step)) (first)
     have r8 := rng32 (((high - step) - first))
     have d0 : step.toInt < ((high - first)).toInt := Int32.lt_iff_toInt_lt.mp c0
     have d2 : ¬ ((((high - step) - first)).toInt < (((2 : Int32) * step)).toInt) := mt Int32.lt_iff_toInt_lt.mpr c2
     omega
    have q11 : (((2 : Int32) * step)).toInt ≤ 100 := by
     have r1 := rng32 high
     have r2 := rng32 step
     have e3 := c_isub (high) (step)
     have r3 := rng32 ((high - step))
     have k4 : (2 : Int32).toInt = 2 := by decide
     have e5 := c_imul ((2 : Int32)) (step)
     have r5 := rng32 (((2 : Int32) * step))
     rw [show (2 : Int32).toInt = 2 from by decide] at e5
     have r6 := rng32 first
     have e7 := c_isub (high) (first)
     have r7 := rng32 ((high - first))
     have e8 := c_isub ((high - step)) (first)
     have r8 := rng32 (((high - step) - first))
     have d0 : step.toInt < ((high - first)).toInt := Int32.lt_iff_toInt_lt.mp c0
     have d2 : ¬ ((((high - step) - first)).toInt < (((2 : Int32) * step)).toInt) := mt Int32.lt_iff_toInt_lt.mpr c2
     omega
    have q12 : ((high - step)).toInt - first.toInt + 1 ≤ (k : Int) := by
     have r1 := rng32 high
     have r2 := rng32 step
     have e3 := c_isub (high) (step)
     have r3 := rng32 ((high - step))
     have k4 : (2 : Int32).toInt = 2 := by decide
     have e5 := c_imul ((2 : Int32)) (step)
     have r5 := rng32 (((2 : Int32) * step))
     rw [show (2 : Int32).toInt = 2 from by decide] at e5
     have r6 := rng32 first
     have e7 := c_isub (high) (first)
     have r7 := rng32 ((high - first))
     have e8 := c_isub ((high - step)) (first)
     have r8 := rng32 (((high - step) - first))
     have d0 : step.toInt < ((high - first)).toInt := Int32.lt_iff_toInt_lt.mp c0
     have d2 : ¬ ((((high - step) - first)).toInt < (((2 : Int32) * step)).toInt) := mt Int32.lt_iff_toInt_lt.mpr c2
     omega
    exact ih (high - step) (((2 : Int32) * step)) X2 e2 q8 q9 q10 q11 q12
  ·refine o_q T (o_f3 m 125 t first lim frm time high step []) (fun _ k => XS.ifYes X0.here hx rfl (pc0 := 99) (pc' := 125) rfl (hb hby o_d14_99) rfl ((if0 _ _).trans (flt (mt (lw_gt _ _).mp c1)).2.2.2) (by decide) (by decide) k) ?_
   refine o_q T (o_f3 m 126 t first lim frm time high step [(.int first)]) (fun _ k => XS.iloadN X0.here hx rfl (hb hby o_d14_125) rfl k) ?_
   refine o_q T (o_f3 m 128 t first lim frm time high step [(.int high), (.int first)]) (fun _ k => XS.iload X0.here hx rfl (hb hby o_d14_126) rfl k) ?_
   refine o_q T (o_f3 m 130 t first lim frm time high step [(.int step), (.int high), (.int first)]) (fun _ k => XS.iload X0.here hx rfl (hb hby o_d14_128) rfl k) ?_
   refine o_q T (o_f3 m 131 t first lim frm time high step [(.int (high - step)), (.int first)]) (fun _ k => XS.isub X0.here hx rfl (hb hby o_d14_130) rfl k) ?_
   obtain ⟨v13, T13, L13, hQ13, X13, st13⟩ := o_callS X0 hx hZ e0 hown (o_m hw 140 rfl) (o_m hw 141 rfl) (by decide) (o_m hw 142 rfl) (o_m hw 2 rfl) (o_k22_2 l Z a0 hw first (high - step) h0 ) (g := (o_f3 m 131 t first lim frm time high step [(.int (high - step)), (.int first)])) rfl (by rw [hml]; rfl) rfl (argsL := [(.int first), (.int (high - step))]) (rest := []) rfl (lenOf o_pd3 rfl) rfl (hb hby o_d14_131) (o_b rfl) (o_b rfl) (o_b rfl) (o_b rfl)
   obtain ⟨rfl, rfl, e13⟩ := hQ13
   rw [List.append_nil] at X13
   by_cases c2 : first < (high - step)
   ·rw [if_pos c2] at st13
    refine o_q T13 (o_f3 m 134 t first lim frm time high step [(.int (high - step))]) st13 ?_
    refine o_q T13 (o_f0 m 136 t first lim frm time (high - step) high step []) (fun _ k => XS.istore X13.here hx rfl (hb hby o_d14_134) rfl (l' := (o_t0 t first lim frm time (high - step) high step)) rfl k) ?_
    have q14 : first.toInt ≤ ((high - step)).toInt := by
     have r1 := rng32 high
     have r2 := rng32 step
     have e3 := c_isub (high) (step)
     have r3 := rng32 ((high - step))
     have r4 := rng32 first
     have e5 := c_isub (high) (first)
     have r5 := rng32 ((high - first))
     have d0 : step.toInt < ((high - first)).toInt := Int32.lt_iff_toInt_lt.mp c0
     have d2 : first.toInt < ((high - step)).toInt := Int32.lt_iff_toInt_lt.mp c2
     omega
    have q15 : ((high - step)).toInt ≤ high.toInt := by
     have r1 := rng32 high
     have r2 := rng32 step
     have e3 := c_isub (high) (step)
     have r3 := rng32 ((high - step))
     have r4 := rng32 first
     have e5 := c_isub (high) (first)
     have r5 := rng32 ((high - first))
     have d0 : step.toInt < ((high - first)).toInt := Int32.lt_iff_toInt_lt.mp c0
     have d2 : first.toInt < ((high - step)).toInt := Int32.lt_iff_toInt_lt.mp c2
     omega
    have q16 : ((high - step)).toInt < lim.toInt := by
     have r1 := rng32 high
     have r2 := rng32 step
     have e3 := c_isub (high) (step)
     have r3 := rng32 ((high - step))
     have r4 := rng32 first
     have e5 := c_isub (high) (first)
     have r5 := rng32 ((high - first))
     have d0 : step.toInt < ((high - first)).toInt := Int32.lt_iff_toInt_lt.mp c0
     have d2 : first.toInt < ((high - step)).toInt := Int32.lt_iff_toInt_lt.mp c2
     omega
    have q17 : high.toInt ≤ lim.toInt := by
     have r1 := rng32 high
     have r2 := rng32 step
     have e3 := c_isub (high) (step)
     have r3 := rng32 ((high - step))
     have r4 := rng32 first
     have e5 := c_isub (high) (first)
     have r5 := rng32 ((high - first))
     have d0 : step.toInt < ((high - first)).toInt := Int32.lt_iff_toInt_lt.mp c0
     have d2 : first.toInt < ((high - step)).toInt := Int32.lt_iff_toInt_lt.mp c2
     omega
    have q18 : high.toInt - ((high - step)).toInt + 1 ≤ (100 : Nat) := by
     have r1 := rng32 high
     have r2 := rng32 step
     have e3 := c_isub (high) (step)
     have r3 := rng32 ((high - step))
     have r4 := rng32 first
     have e5 := c_isub (high) (first)
     have r5 := rng32 ((high - first))
     have d0 : step.toInt < ((high - first)).toInt := Int32.lt_iff_toInt_lt.mp c0
     have d2 : first.toInt < ((high - step)).toInt := Int32.lt_iff_toInt_lt.mp c2
     omega
    exact o_place3 Z a0 hw t n first lim frm time xs h0 A0 b1 b2 b3 b4 b5 hx hby hml hZ hown hret hlk 100 ((high - step)) high (step) X13 e13 q14 q15 q16 q17 q18 (fun _ => c1)
   ·rw [if_neg c2] at st13
    refine o_q T13 (o_f3 m 134 t first lim frm time high step [(.int first)]) st13 ?_
    refine o_q T13 (o_f0 m 136 t first lim frm time first high step []) (fun _ k => XS.istore X13.here hx rfl (hb hby o_d14_134) rfl (l' := (o_t0 t first lim frm time first high step)) rfl k) ?_
    have q19 : first.toInt ≤ first.toInt := by
     have r1 := rng32 first
     have r2 := rng32 high
     have r3 := rng32 step
     have e4 := c_isub (high) (first)
     have r4 := rng32 ((high - first))
     have e5 := c_isub (high) (step)
     have r5 := rng32 ((high - step))
     have d0 : step.toInt < ((high - first)).toInt := Int32.lt_iff_toInt_lt.mp c0
     have d2 : ¬ (first.toInt < ((high - step)).toInt) := mt Int32.lt_iff_toInt_lt.mpr c2
     omega
    have q20 : first.toInt ≤ high.toInt := by
     have r1 := rng32 first
     have r2 := rng32 high
     have r3 := rng32 step
     have e4 := c_isub (high) (first)
     have r4 := rng32 ((high - first))
     have e5 := c_isub (high) (step)
     have r5 := rng32 ((high - step))
     have d0 : step.toInt < ((high - first)).toInt := Int32.lt_iff_toInt_lt.mp c0
     have d2 : ¬ (first.toInt < ((high - step)).toInt) := mt Int32.lt_iff_toInt_lt.mpr c2
     omega
    have q21 : first.toInt < lim.toInt := by
     have r1 := rng32 first
     have r2 := rng32 high
     have r3 := rng32 step
     have e4 := c_isub (high) (first)
     have r4 := rng32 ((high - first))
     have e5 := c_isub (high) (step)
     have r5 := rng32 ((high - step))
     have d0 : step.toInt < ((high - first)).toInt := Int32.lt_iff_toInt_lt.mp c0
     have d2 : ¬ (first.toInt < ((high - step)).toInt) := mt Int32.lt_iff_toInt_lt.mpr c2
     omega
    have q22 : high.toInt ≤ lim.toInt := by
     have r1 := rng32 first
     have r2 := rng32 high
     have r3 := rng32 step
     have e4 := c_isub (high) (first)
     have r4 := rng32 ((high - first))
     have e5 := c_isub (high) (step)
     have r5 := rng32 ((high - step))
     have d0 : step.toInt < ((high - first)).toInt := Int32.lt_iff_toInt_lt.mp c0
     have d2 : ¬ (first.toInt < ((high - step)).toInt) := mt Int32.lt_iff_toInt_lt.mpr c2
     omega
    have q23 : high.toInt - first.toInt + 1 ≤ (100 : Nat) := by
     have r1 := rng32 first
     have r2 := rng32 high
     have r3 := rng32 step
     have e4 := c_isub (high) (first)
     have r4 := rng32 ((high - first))
     have e5 := c_isub (high) (step)
     have r5 := rng32 ((high - step))
     have d0 : step.toInt < ((high - first)).toInt := Int32.lt_iff_toInt_lt.mp c0
     have d2 : ¬ (first.toInt < ((high - step)).toInt) := mt Int32.lt_iff_toInt_lt.mpr c2
     omega
    exact o_place3 Z a0 hw t n first lim frm time xs h0 A0 b1 b2 b3 b4 b5 hx hby hml hZ hown hret hlk 100 first high (step) X13 e13 q19 q20 q21 q22 q23 (fun q => q)
 ·refine o_q T (o_f3 m 125 t first lim frm time high step []) (fun _ k => XS.icmpYes X0.here hx rfl (pc0 := 86) (pc' := 125) rfl (hb hby o_d14_86) rfl (flt c0).2.1 (by decide) (by decide) k) ?_
  refine o_q T (o_f3 m 126 t first lim frm time high step [(.int first)]) (fun _ k => XS.iloadN X0.here hx rfl (hb hby o_d14_125) rfl k) ?_
  refine o_q T (o_f3 m 128 t first lim frm time high step [(.int high), (.int first)]) (fun _ k => XS.iload X0.here hx rfl (hb hby o_d14_126) rfl k) ?_
  refine o_q T (o_f3 m 130 t first lim frm time high step [(.int step), (.int high), (.int first)]) (fun _ k => XS.iload X0.here hx rfl (hb hby o_d14_128) rfl k) ?_
  refine o_q T (o_f3 m 131 t first lim frm time high step [(.int (high - step)), (.int first)]) (fun _ k => XS.isub X0.here hx rfl (hb hby o_d14_130) rfl k) ?_
  obtain ⟨v24, T24, L24, hQ24, X24, st24⟩ := o_callS X0 hx hZ e0 hown (o_m hw 140 rfl) (o_m hw 141 rfl) (by decide) (o_m hw 142 rfl) (o_m hw 2 rfl) (o_k22_2 l Z a0 hw first (high - step) h0 ) (g := (o_f3 m 131 t first lim frm time high step [(.int (high - step)), (.int first)])) rfl (by rw [hml]; rfl) rfl (argsL := [(.int first), (.int (high - step))]) (rest := []) rfl (lenOf o_pd3 rfl) rfl (hb hby o_d14_131) (o_b rfl) (o_b rfl) (o_b rfl) (o_b rfl)
  obtain ⟨rfl, rfl, e24⟩ := hQ24
  rw [List.append_nil] at X24
  by_cases c1 : first < (high - step)
  ·rw [if_pos c1] at st24
   refine o_q T24 (o_f3 m 134 t first lim frm time high step [(.int (high - step))]) st24 ?_
   refine o_q T24 (o_f0 m 136 t first lim frm time (high - step) high step []) (fun _ k => XS.istore X24.here hx rfl (hb hby o_d14_134) rfl (l' := (o_t0 t first lim frm time (high - step) high step)) rfl k) ?_
   have q25 : first.toInt ≤ ((high - step)).toInt := by
    have r1 := rng32 high
    have r2 := rng32 step
    have e3 := c_isub (high) (step)
    have r3 := rng32 ((high - step))
    have r4 := rng32 first
    have e5 := c_isub (high) (first)
    have r5 := rng32 ((high - first))
    have d0 : ¬ (step.toInt < ((high - first)).toInt) := mt Int32.lt_iff_toInt_lt.mpr c0
    have d1 : first.toInt < ((high - step)).toInt := Int32.lt_iff_toInt_lt.mp c1
    omega
   have q26 : ((high - step)).toInt ≤ high.toInt := by
    have r1 := rng32 high
    have r2 := rng32 step
    have e3 := c_isub (high) (step)
    have r3 := rng32 ((high - step))
    have r4 := rng32 first
    have e5 := c_isub (high) (first)
    have r5 := rng32 ((high - first))
    have d0 : ¬ (step.toInt < ((high - first)).toInt) := mt Int32.lt_iff_toInt_lt.mpr c0
    have d1 : first.toInt < ((high - step)).toInt := Int32.lt_iff_toInt_lt.mp c1
    omega
   have q27 : ((high - step)).toInt < lim.toInt := by
    have r1 := rng32 high
    have r2 := rng32 step
    have e3 := c_isub (high) (step)
    have r3 := rng32 ((high - step))
    have r4 := rng32 first
    have e5 := c_isub (high) (first)
    have r5 := rng32 ((high - first))
    have d0 : ¬ (step.toInt < ((high - first)).toInt) := mt Int32.lt_iff_toInt_lt.mpr c0
    have d1 : first.toInt < ((high - step)).toInt := Int32.lt_iff_toInt_lt.mp c1
    omega
   have q28 : high.toInt ≤ lim.toInt := by
    have r1 := rng32 high
    have r2 := rng32 step
    have e3 := c_isub (high) (step)
    have r3 := rng32 ((high - step))
    have r4 := rng32 first
    have e5 := c_isub (high) (first)
    have r5 := rng32 ((high - first))
    have d0 : ¬ (step.toInt < ((high - first)).toInt) := mt Int32.lt_iff_toInt_lt.mpr c0
    have d1 : first.toInt < ((high - step)).toInt := Int32.lt_iff_toInt_lt.mp c1
    omega
   have q29 : high.toInt - ((high - step)).toInt + 1 ≤ (100 : Nat) := by
    have r1 := rng32 high
    have r2 := rng32 step
    have e3 := c_isub (high) (step)
    have r3 := rng32 ((high - step))
    have r4 := rng32 first
    have e5 := c_isub (high) (first)
    have r5 := rng32 ((high - first))
    have d0 : ¬ (step.toInt < ((high - first)).toInt) := mt Int32.lt_iff_toInt_lt.mpr c0
    have d1 : first.toInt < ((high - step)).toInt := Int32.lt_iff_toInt_lt.mp c1
    omega
   have q30 : ((high - step)).toInt = first.toInt := by
    have r1 := rng32 high
    have r2 := rng32 step
    have e3 := c_isub (high) (step)
    have r3 := rng32 ((high - step))
    have r4 := rng32 first
    have e5 := c_isub (high) (first)
    have r5 := rng32 ((high - first))
    have d0 : ¬ (step.toInt < ((high - first)).toInt) := mt Int32.lt_iff_toInt_lt.mpr c0
    have d1 : first.toInt < ((high - step)).toInt := Int32.lt_iff_toInt_lt.mp c1
    omega
   exact o_place3 Z a0 hw t n first lim frm time xs h0 A0 b1 b2 b3 b4 b5 hx hby hml hZ hown hret hlk 100 ((high - step)) high (step) X24 e24 q25 q26 q27 q28 q29 (by rw [Int32.toInt_inj.mp q30]; exact id)
  ·rw [if_neg c1] at st24
   refine o_q T24 (o_f3 m 134 t first lim frm time high step [(.int first)]) st24 ?_
   refine o_q T24 (o_f0 m 136 t first lim frm time first high step []) (fun _ k => XS.istore X24.here hx rfl (hb hby o_d14_134) rfl (l' := (o_t0 t first lim frm time first high step)) rfl k) ?_
   have q31 : first.toInt ≤ first.toInt := by
    have r1 := rng32 first
    have r2 := rng32 high
    have r3 := rng32 step
    have e4 := c_isub (high) (first)
    have r4 := rng32 ((high - first))
    have e5 := c_isub (high) (step)
    have r5 := rng32 ((high - step))
    have d0 : ¬ (step.toInt < ((high - first)).toInt) := mt Int32.lt_iff_toInt_lt.mpr c0
    have d1 : ¬ (first.toInt < ((high - step)).toInt) := mt Int32.lt_iff_toInt_lt.mpr c1
    omega
   have q32 : first.toInt ≤ high.toInt := by
    have r1 := rng32 first
    have r2 := rng32 high
    have r3 := rng32 step
    have e4 := c_isub (high) (first)
    have r4 := rng32 ((high - first))
    have e5 := c_isub (high) (step)
    have r5 := rng32 ((high - step))
    have d0 : ¬ (step.toInt < ((high - first)).toInt) := mt Int32.lt_iff_toInt_lt.mpr c0
    have d1 : ¬ (first.toInt < ((high - step)).toInt) := mt Int32.lt_iff_toInt_lt.mpr c1
    omega
   have q33 : first.toInt < lim.toInt := by
    have r1 := rng32 first
    have r2 := rng32 high
    have r3 := rng32 step
    have e4 := c_isub (high) (first)
    have r4 := rng32 ((high - first))
    have e5 := c_isub (high) (step)
    have r5 := rng32 ((high - step))
    have d0 : ¬ (step.toInt < ((high - first)).toInt) := mt Int32.lt_iff_toInt_lt.mpr c0
    have d1 : ¬ (first.toInt < ((high - step)).toInt) := mt Int32.lt_iff_toInt_lt.mpr c1
    omega
   have q34 : high.toInt ≤ lim.toInt := by
    have r1 := rng32 first
    have r2 := rng32 high
    have r3 := rng32 step
    have e4 := c_isub (high) (first)
    have r4 := rng32 ((high - first))
    have e5 := c_isub (high) (step)
    have r5 := rng32 ((high - step))
    have d0 : ¬ (step.toInt < ((high - first)).toInt) := mt Int32.lt_iff_toInt_lt.mpr c0
    have d1 : ¬ (first.toInt < ((high - step)).toInt) := mt Int32.lt_iff_toInt_lt.mpr c1
    omega
   have q35 : high.toInt - first.toInt + 1 ≤ (100 : Nat) := by
    have r1 := rng32 first
    have r2 := rng32 high
    have r3 := rng32 step
    have e4 := c_isub (high) (first)
    have r4 := rng32 ((high - first))
    have e5 := c_isub (high) (step)
    have r5 := rng32 ((high - step))
    have d0 : ¬ (step.toInt < ((high - first)).toInt) := mt Int32.lt_iff_toInt_lt.mpr c0
    have d1 : ¬ (first.toInt < ((high - step)).toInt) := mt Int32.lt_iff_toInt_lt.mpr c1
    omega
   exact o_place3 Z a0 hw t n first lim frm time xs h0 A0 b1 b2 b3 b4 b5 hx hby hml hZ hown hret hlk 100 first high (step) X24 e24 q31 q32 q33 q34 q35 (fun q => q)
theorem o_pn14 : plainFor (⟨o_n1, "placeAtOrBefore", "([JIIIJ)I"⟩ : MethodName) = true := plainFor_of_name (by first | (simp [plainName, overriddenIn]; done) | decide +kernel)
theorem o_d14_0 : decode o_y0 0 = .ok (.aload_n 0, 1) := by decide +kernel
theorem o_d14_1 : decode o_y0 1 = .ok (.iload_n 3, 1) := by decide +kernel
theorem o_d14_2 : decode o_y0 2 = .ok (.laload, 1) := by decide +kernel
theorem o_d14_3 : decode o_y0 3 = .ok (.lload 4, 2) := by decide +kernel
theorem o_d14_5 : decode o_y0 5 = .ok (.lcmp, 1) := by decide +kernel
theorem o_d14_6 : decode o_y0 6 = .ok (.ifCond .gt 68, 3) := by decide +kernel
theorem o_d14_74 : decode o_y0 74 = .ok (.iload_n 3, 1) := by decide +kernel
theorem o_d14_75 : decode o_y0 75 = .ok (.istore 7, 2) := by decide +kernel
theorem o_d14_77 : decode o_y0 77 = .ok (.iconst 1, 1) := by decide +kernel
theorem o_d14_78 : decode o_y0 78 = .ok (.istore 8, 2) := by decide +kernel
theorem o_d14_9 : decode o_y0 9 = .ok (.iload_n 3, 1) := by decide +kernel
theorem o_d14_10 : decode o_y0 10 = .ok (.istore 6, 2) := by decide +kernel
theorem o_d14_12 : decode o_y0 12 = .ok (.iconst 1, 1) := by decide +kernel
theorem o_d14_13 : decode o_y0 13 = .ok (.istore 8, 2) := by decide +kernel
set_option maxRecDepth 65536 in
set_option maxHeartbeats 40000000 in
theorem o_place (l : Launch) (Z : State) (a0 : Array Value) (hw : ∀ d ∈ tables_1, d.before a0 Z = true) (t : Addr) (n first lim frm : Int32) (time : Int64) (xs : Nat → Int64) (h0 : Heap) (A0 : o_LA Z h0 t n xs) (b1 : 0 ≤ first.toInt) (b2 : first.toInt ≤ frm.toInt) (b3 : frm.toInt < lim.toInt) (b4 : lim.toInt ≤ n.toInt) (b5 : n.toInt ≤ 64) :
  o_C l (⟨o_n1, "placeAtOrBefore", "([JIIIJ)I"⟩ : MethodName) o_y0 9 (some .int) (o_R 1 0 0 13) Z h0 #[(.ref t), (.int first), (.int lim), (.int frm), (.long time)] (fun v h L => ∃ r : Int32, v = some (.int r) ∧ L = [] ∧ h = h0 ∧ first.toInt ≤ r.toInt ∧ r.toInt < lim.toInt ∧ (¬ time < xs first.toNatClampNeg → ¬ time < xs r.toNatClampNeg)) := by
 refine o_body o_pn14 ?_
 intro p e s m below meth c s₁ hx hby hml hZ hown hnm hret hlk X0 e0
 refine o_cast (f' := (o_f4 m 0 t first lim frm time [])) (by first | (simp [entryFrame, mkF, argsToLocals, Value.category, maxLocals]; done) | rfl) ?_
 refine o_q s₁ (o_f4 m 1 t first lim frm time [(.ref t)]) (fun _ k => XS.aloadN X0.here hx rfl (hb hby o_d14_0) rfl rfl k) ?_
 refine o_q s₁ (o_f4 m 2 t first lim frm time [(.int frm), (.ref t)]) (fun _ k => XS.iloadN X0.here hx rfl (hb hby o_d14_1) rfl k) ?_
 have hin1 : ¬ (frm < (0 : Int32)) ∧ frm < n := by
  have r1 := rng32 frm
  have r2 := rng32 n
  have k3 : (0 : Int32).toInt = 0 := by decide
  rw [Int32.lt_iff_toInt_lt, Int32.lt_iff_toInt_lt]
  omega
 refine o_q s₁ (o_f4 m 3 t first lim frm time [(.long (xs frm.toNatClampNeg))]) (fun _ k => o_ldJ X0 hx hZ e0 A0 hin1 (g := (o_f4 m 2 t first lim frm time [(.int frm), (.ref t)])) rfl rfl (hb hby o_d14_2) _ k) ?_
 refine o_q s₁ (o_f4 m 5 t first lim frm time [(.long time), (.long (xs frm.toNatClampNeg))]) (fun _ k => XS.lload X0.here hx rfl (hb hby o_d14_3) rfl k) ?_
 refine o_q s₁ (o_f4 m 6 t first lim frm time [(.int (lcmpW (xs frm.toNatClampNeg) time))]) (fun _ k => XS.lcmp X0.here hx rfl (hb hby o_d14_5) rfl k) ?_
 by_cases c0 : time < (xs frm.toNatClampNeg)
 ·refine o_q s₁ (o_f4 m 74 t first lim frm time []) (fun _ k => XS.ifYes X0.here hx rfl (pc0 := 6) (pc' := 74) rfl (hb hby o_d14_6) rfl ((if0 _ _).trans (tlt ((lw_gt _ _).mpr c0)).2.2.1) (by decide) (by decide) k) ?_
  refine o_q s₁ (o_f4 m 75 t first lim frm time [(.int frm)]) (fun _ k => XS.iloadN X0.here hx rfl (hb hby o_d14_74) rfl k) ?_
  refine o_q s₁ (o_f5 m 77 t first lim frm time frm []) (fun _ k => XS.istore X0.here hx rfl (hb hby o_d14_75) rfl (l' := (o_t5 t first lim frm time frm)) rfl k) ?_
  refine o_q s₁ (o_f5 m 78 t first lim frm time frm [(.int (1 : Int32))]) (fun _ k => XS.iconst X0.here hx rfl (hb hby o_d14_77) k) ?_
  refine o_q s₁ (o_f3 m 80 t first lim frm time frm (1 : Int32) []) (fun _ k => XS.istore X0.here hx rfl (hb hby o_d14_78) rfl (l' := (o_t3 t first lim frm time frm (1 : Int32))) rfl k) ?_
  have q2 : (1 : Int) ≤ (1 : Int32).toInt := by
   have k1 : (1 : Int32).toInt = 1 := by decide
   omega
  have q3 : (1 : Int32).toInt ≤ 100 := by
   have k1 : (1 : Int32).toInt = 1 := by decide
   omega
  have q4 : frm.toInt - first.toInt + 1 ≤ (100 : Nat) := by
   have r1 := rng32 first
   have r2 := rng32 frm
   omega
  exact o_place2 Z a0 hw t n first lim frm time xs h0 A0 b1 b2 b3 b4 b5 hx hby hml hZ hown hret hlk 100 frm (1 : Int32) X0 e0 b2 b3 q2 q3 q4
 ·refine o_q s₁ (o_f4 m 9 t first lim frm time []) (fun _ k => XS.ifNo X0.here hx rfl (hb hby o_d14_6) rfl ((if0 _ _).trans (flt (mt (lw_gt _ _).mp c0)).2.2.1) k) ?_
  refine o_q s₁ (o_f4 m 10 t first lim frm time [(.int frm)]) (fun _ k => XS.iloadN X0.here hx rfl (hb hby o_d14_9) rfl k) ?_
  refine o_q s₁ (o_f6 m 12 t first lim frm time frm []) (fun _ k => XS.istore X0.here hx rfl (hb hby o_d14_10) rfl (l' := (o_t6 t first lim frm time frm)) rfl k) ?_
  refine o_q s₁ (o_f6 m 13 t first lim frm time frm [(.int (1 : Int32))]) (fun _ k => XS.iconst X0.here hx rfl (hb hby o_d14_12) k) ?_
  refine o_q s₁ (o_f2 m 15 t first lim frm time frm (1 : Int32) []) (fun _ k => XS.istore X0.here hx rfl (hb hby o_d14_13) rfl (l' := (o_t2 t first lim frm time frm (1 : Int32))) rfl k) ?_
  have q5 : (1 : Int) ≤ (1 : Int32).toInt := by
   have k1 : (1 : Int32).toInt = 1 := by decide
   omega
  have q6 : (1 : Int32).toInt ≤ lim.toInt - frm.toInt := by
   have k1 : (1 : Int32).toInt = 1 := by decide
   omega
  have q7 : lim.toInt - frm.toInt ≤ (100 : Nat) := by
   have r1 := rng32 lim
   have r2 := rng32 frm
   omega
  exact o_place1 Z a0 hw t n first lim frm time xs h0 A0 b1 b2 b3 b4 b5 hx hby hml hZ hown hret hlk 100 frm (1 : Int32) X0 e0 b2 b3 q5 q6 q7 c0
theorem o_d12_0 : decode o_y3 0 = .ok (.aload_n 0, 1) := by decide +kernel
theorem o_d12_1 : decode o_y3 1 = .ok (.getfield 56, 3) := by decide +kernel
theorem o_d12_4 : decode o_y3 4 = .ok (.iconst 1, 1) := by decide +kernel
theorem o_d12_5 : decode o_y3 5 = .ok (.iadd, 1) := by decide +kernel
theorem o_d12_6 : decode o_y3 6 = .ok (.aload_n 0, 1) := by decide +kernel
theorem o_d12_7 : decode o_y3 7 = .ok (.getfield 53, 3) := by decide +kernel
theorem o_d12_10 : decode o_y3 10 = .ok (.if_icmp .eq 19, 3) := by decide +kernel
theorem o_d12_29 : decode o_y3 29 = .ok (.aload_n 0, 1) := by decide +kernel
theorem o_d12_30 : decode o_y3 30 = .ok (.getfield 56, 3) := by decide +kernel
theorem o_d12_33 : decode o_y3 33 = .ok (.ireturn, 1) := by decide +kernel
theorem o_d12_13 : decode o_y3 13 = .ok (.lload_n 1, 1) := by decide +kernel
theorem o_d12_14 : decode o_y3 14 = .ok (.aload_n 0, 1) := by decide +kernel
theorem o_d12_15 : decode o_y3 15 = .ok (.getfield 46, 3) := by decide +kernel
theorem o_d12_18 : decode o_y3 18 = .ok (.aload_n 0, 1) := by decide +kernel
theorem o_d12_19 : decode o_y3 19 = .ok (.getfield 56, 3) := by decide +kernel
theorem o_d12_22 : decode o_y3 22 = .ok (.iconst 1, 1) := by decide +kernel
theorem o_d12_23 : decode o_y3 23 = .ok (.iadd, 1) := by decide +kernel
theorem o_d12_24 : decode o_y3 24 = .ok (.laload, 1) := by decide +kernel
theorem o_d12_25 : decode o_y3 25 = .ok (.lcmp, 1) := by decide +kernel
theorem o_d12_26 : decode o_y3 26 = .ok (.ifCond .ge 8, 3) := by decide +kernel
theorem o_d12_34 : decode o_y3 34 = .ok (.aload_n 0, 1) := by decide +kernel
theorem o_d12_35 : decode o_y3 35 = .ok (.getfield 302, 3) := by decide +kernel
theorem o_d12_38 : decode o_y3 38 = .ok (.aload_n 0, 1) := by decide +kernel
theorem o_d12_39 : decode o_y3 39 = .ok (.getfield 56, 3) := by decide +kernel
theorem o_d12_42 : decode o_y3 42 = .ok (.if_icmp .lt 21, 3) := by decide +kernel
theorem o_d12_63 : decode o_y3 63 = .ok (.aload_n 0, 1) := by decide +kernel
theorem o_d12_64 : decode o_y3 64 = .ok (.getfield 56, 3) := by decide +kernel
theorem o_d12_67 : decode o_y3 67 = .ok (.istore_n 3, 1) := by decide +kernel
theorem o_d12_68 : decode o_y3 68 = .ok (.aload_n 0, 1) := by decide +kernel
theorem o_d12_69 : decode o_y3 69 = .ok (.aload_n 0, 1) := by decide +kernel
theorem o_d12_70 : decode o_y3 70 = .ok (.getfield 46, 3) := by decide +kernel
theorem o_d12_73 : decode o_y3 73 = .ok (.aload_n 0, 1) := by decide +kernel
theorem o_d12_74 : decode o_y3 74 = .ok (.getfield 56, 3) := by decide +kernel
theorem o_d12_77 : decode o_y3 77 = .ok (.aload_n 0, 1) := by decide +kernel
theorem o_d12_78 : decode o_y3 78 = .ok (.getfield 53, 3) := by decide +kernel
theorem o_d12_81 : decode o_y3 81 = .ok (.iload_n 3, 1) := by decide +kernel
theorem o_d12_82 : decode o_y3 82 = .ok (.lload_n 1, 1) := by decide +kernel
theorem o_d12_83 : decode o_y3 83 = .ok (.invokestatic 305, 3) := by decide +kernel
theorem o_pd14 : parseMethodDescriptor "([JIIIJ)I" = some ⟨[(.array .long), .int, .int, .int, .long], some .int⟩ := by decide +kernel
theorem o_d12_86 : decode o_y3 86 = .ok (.putfield 302, 3) := by decide +kernel
theorem o_d12_89 : decode o_y3 89 = .ok (.aload_n 0, 1) := by decide +kernel
theorem o_d12_90 : decode o_y3 90 = .ok (.getfield 302, 3) := by decide +kernel
theorem o_d12_93 : decode o_y3 93 = .ok (.ireturn, 1) := by decide +kernel
theorem o_d12_45 : decode o_y3 45 = .ok (.aload_n 0, 1) := by decide +kernel
theorem o_d12_46 : decode o_y3 46 = .ok (.getfield 302, 3) := by decide +kernel
theorem o_d12_49 : decode o_y3 49 = .ok (.aload_n 0, 1) := by decide +kernel
theorem o_d12_50 : decode o_y3 50 = .ok (.getfield 53, 3) := by decide +kernel
theorem o_d12_53 : decode o_y3 53 = .ok (.if_icmp .ge 10, 3) := by decide +kernel
theorem o_d12_56 : decode o_y3 56 = .ok (.aload_n 0, 1) := by decide +kernel
theorem o_d12_57 : decode o_y3 57 = .ok (.getfield 302, 3) := by decide +kernel
theorem o_d12_60 : decode o_y3 60 = .ok (.goto 7, 3) := by decide +kernel
theorem o_pn12 : plainFor (⟨o_n1, "segmentAt", "(J)I"⟩ : MethodName) = true := plainFor_of_name (by first | (simp [plainName, overriddenIn]; done) | decide +kernel)
set_option maxRecDepth 65536 in
set_option maxHeartbeats 40000000 in
theorem o_seg (l : Launch) (Z : State) (a0 : Array Value) (hw : ∀ d ∈ tables_1, d.before a0 Z = true) (n0 : Nat) (pp rc ru wa tm fr : Addr) (tl la L : Int32) (ch gb : Int64) (xs : Nat → Int64) (fs : Nat → Int32) (rs : Nat → Int64) (time : Int64) (h0 : Heap) (hP : o_Pr Z n0 pp rc ru wa tm fr tl la L ch gb xs fs rs h0) (i1 : 1 ≤ tl.toInt) (i2 : tl.toInt ≤ L.toInt) (i3 : L.toInt ≤ 32) :
  o_C l (⟨o_n1, "segmentAt", "(J)I"⟩ : MethodName) o_y3 4 (some .int) (o_R 2 0 0 34) Z h0 #[(.ref pp), (.long time)] (fun v h Ls => ∃ (r la' : Int32), v = some (.int r) ∧ Fr n0 Ls ∧ o_Pr Z n0 pp rc ru wa tm fr tl la' L ch gb xs fs rs h ∧ 0 ≤ r.toInt ∧ r.toInt < tl.toInt ∧ (¬ time < xs 0 → ¬ time < xs r.toNatClampNeg)) := by
 refine o_body o_pn12 ?_
 intro p e s m below meth c s₁ hx hby hml hZ hown hnm hret hlk X0 e0
 refine o_cast (f' := (o_f7 m 0 pp time [])) (by first | (simp [entryFrame, mkF, argsToLocals, Value.category, maxLocals]; done) | rfl) ?_
 obtain ⟨Ep1, Er1, Ew1, F1_cpus, F1_times, F1_free, F1_head, F1_tail, F1_lastAt, F1_runs, F1_firstKnown, F1_watcher, F1_watchedAs, F1_changes, F1_merged, F1_gaveBack, F1_recent, Fn1, At1, Af1, Ar1, nt1, wl1, gp1, gt1, gf1, gr1, gu1⟩ := hP
 have ne2 : o_ne pp ru := Ep1.ne Er1 (by decide)
 have ne3 : o_ne pp tm := At1.neExa Ep1 (o_m hw 8 rfl)
 have ne4 : o_ne ru tm := At1.neExa Er1 (o_m hw 17 rfl)
 have ne5 : o_ne pp fr := Af1.neExa Ep1 (o_m hw 8 rfl)
 have ne6 : o_ne ru fr := Af1.neExa Er1 (o_m hw 17 rfl)
 have ne7 : o_ne pp rc := Ar1.neExa Ep1 (o_m hw 8 rfl)
 have ne8 : o_ne ru rc := Ar1.neExa Er1 (o_m hw 17 rfl)
 have ne9 : o_ne wa pp := Nat.ne_of_lt (Nat.lt_of_lt_of_le wl1 gp1)
 have ne10 : o_ne wa tm := Nat.ne_of_lt (Nat.lt_of_lt_of_le wl1 gt1)
 have ne11 : o_ne wa fr := Nat.ne_of_lt (Nat.lt_of_lt_of_le wl1 gf1)
 have ne12 : o_ne wa rc := Nat.ne_of_lt (Nat.lt_of_lt_of_le wl1 gr1)
 have ne13 : o_ne wa ru := Nat.ne_of_lt (Nat.lt_of_lt_of_le wl1 gu1)
 have ne14 : o_ne tm fr := At1.ne Af1 (by intro q; cases q)
 have ne15 : o_ne fr rc := Af1.ne Ar1 (by intro q; cases q)
 refine o_q s₁ (o_f7 m 1 pp time [(.ref pp)]) (fun _ k => XS.aloadN X0.here hx rfl (hb hby o_d12_0) rfl rfl k) ?_
 obtain ⟨T16, X16, e16, st16⟩ := getF X0 hx hZ hown (host := "") (Or.inl (o_m hw 92 rfl)) Via.refl e0 F1_head (g := (o_f7 m 1 pp time [(.ref pp)])) rfl rfl (hb hby o_d12_1)
 refine o_q T16 (o_f7 m 4 pp time [(.int (0 : Int32))]) st16 ?_
 refine o_q T16 (o_f7 m 5 pp time [(.int (1 : Int32)), (.int (0 : Int32))]) (fun _ k => XS.iconst X16.here hx rfl (hb hby o_d12_4) k) ?_
 refine o_q T16 (o_f7 m 6 pp time [(.int (1 : Int32))]) (fun _ k => XS.iadd X16.here hx rfl (hb hby o_d12_5) rfl k) ?_
 refine o_q T16 (o_f7 m 7 pp time [(.ref pp), (.int (1 : Int32))]) (fun _ k => XS.aloadN X16.here hx rfl (hb hby o_d12_6) rfl rfl k) ?_
 obtain ⟨T17, X17, e17, st17⟩ := getF X16 hx hZ hown (host := "") (Or.inl (o_m hw 48 rfl)) Via.refl e16 F1_tail (g := (o_f7 m 7 pp time [(.ref pp), (.int (1 : Int32))])) rfl rfl (hb hby o_d12_7)
 refine o_q T17 (o_f7 m 10 pp time [(.int tl), (.int (1 : Int32))]) st17 ?_
 by_cases c0 : (1 : Int32) = tl
 ·refine o_q T17 (o_f7 m 29 pp time []) (fun _ k => XS.icmpYes X17.here hx rfl (pc0 := 10) (pc' := 29) rfl (hb hby o_d12_10) rfl (teq c0).1 (by decide) (by decide) k) ?_
  refine o_q T17 (o_f7 m 30 pp time [(.ref pp)]) (fun _ k => XS.aloadN X17.here hx rfl (hb hby o_d12_29) rfl rfl k) ?_
  obtain ⟨T18, X18, e18, st18⟩ := getF X17 hx hZ hown (host := "") (Or.inl (o_m hw 92 rfl)) Via.refl e17 F1_head (g := (o_f7 m 30 pp time [(.ref pp)])) rfl rfl (hb hby o_d12_30)
  refine o_q T18 (o_f7 m 33 pp time [(.int (0 : Int32))]) st18 ?_
  have hP19 : o_Pr Z n0 pp rc ru wa tm fr tl la L ch gb xs fs rs h0 := ⟨Ep1, Er1, Ew1, F1_cpus, F1_times, F1_free, F1_head, F1_tail, F1_lastAt, F1_runs, F1_firstKnown, F1_watcher, F1_watchedAs, F1_changes, F1_merged, F1_gaveBack, F1_recent, Fn1, At1, Af1, Ar1, nt1, wl1, gp1, gt1, gf1, gr1, gu1⟩
  have q20 : 0 ≤ (0 : Int32).toInt := by
   have k1 : (0 : Int32).toInt = 0 := by decide
   have k2 : (1 : Int32).toInt = 1 := by decide
   have r3 := rng32 tl
   have d0 : (1 : Int32).toInt = tl.toInt := congrArg Int32.toInt c0
   omega
  have q21 : (0 : Int32).toInt < tl.toInt := by
   have k1 : (0 : Int32).toInt = 0 := by decide
   have k2 : (1 : Int32).toInt = 1 := by decide
   have r3 := rng32 tl
   have d0 : (1 : Int32).toInt = tl.toInt := congrArg Int32.toInt c0
   omega
  refine o_retI X18 hx hlk hret (hb hby o_d12_33) ?_ (o_b rfl) (o_b rfl)
  rw [e18]
  exact ⟨(0 : Int32), la, rfl, Fr.nil _, hP19, q20, q21, (fun q => q)⟩
 ·refine o_q T17 (o_f7 m 13 pp time []) (fun _ k => XS.icmpNo X17.here hx rfl (hb hby o_d12_10) rfl (feq c0).1 k) ?_
  refine o_q T17 (o_f7 m 14 pp time [(.long time)]) (fun _ k => XS.lloadN X17.here hx rfl (hb hby o_d12_13) rfl k) ?_
  refine o_q T17 (o_f7 m 15 pp time [(.ref pp), (.long time)]) (fun _ k => XS.aloadN X17.here hx rfl (hb hby o_d12_14) rfl rfl k) ?_
  obtain ⟨T22, X22, e22, st22⟩ := getF X17 hx hZ hown (host := "") (Or.inl (o_m hw 43 rfl)) Via.refl e17 F1_times (g := (o_f7 m 15 pp time [(.ref pp), (.long time)])) rfl rfl (hb hby o_d12_15)
  refine o_q T22 (o_f7 m 18 pp time [(.ref tm), (.long time)]) st22 ?_
  refine o_q T22 (o_f7 m 19 pp time [(.ref pp), (.ref tm), (.long time)]) (fun _ k => XS.aloadN X22.here hx rfl (hb hby o_d12_18) rfl rfl k) ?_
  obtain ⟨T23, X23, e23, st23⟩ := getF X22 hx hZ hown (host := "") (Or.inl (o_m hw 92 rfl)) Via.refl e22 F1_head (g := (o_f7 m 19 pp time [(.ref pp), (.ref tm), (.long time)])) rfl rfl (hb hby o_d12_19)
  refine o_q T23 (o_f7 m 22 pp time [(.int (0 : Int32)), (.ref tm), (.long time)]) st23 ?_
  refine o_q T23 (o_f7 m 23 pp time [(.int (1 : Int32)), (.int (0 : Int32)), (.ref tm), (.long time)]) (fun _ k => XS.iconst X23.here hx rfl (hb hby o_d12_22) k) ?_
  refine o_q T23 (o_f7 m 24 pp time [(.int (1 : Int32)), (.ref tm), (.long time)]) (fun _ k => XS.iadd X23.here hx rfl (hb hby o_d12_23) rfl k) ?_
  have hin24 : ¬ ((1 : Int32) < (0 : Int32)) ∧ (1 : Int32) < L := by
   have k1 : (1 : Int32).toInt = 1 := by decide
   have r2 := rng32 L
   have k3 : (0 : Int32).toInt = 0 := by decide
   have r4 := rng32 tl
   have d0 : ¬ ((1 : Int32).toInt = tl.toInt) := fun q => c0 (Int32.toInt_inj.mp q)
   rw [Int32.lt_iff_toInt_lt, Int32.lt_iff_toInt_lt]
   omega
  refine o_q T23 (o_f7 m 25 pp time [(.long (xs (1 : Int32).toNatClampNeg)), (.long time)]) (fun _ k => o_ldJ X23 hx hZ e23 At1 hin24 (g := (o_f7 m 24 pp time [(.int (1 : Int32)), (.ref tm), (.long time)])) rfl rfl (hb hby o_d12_24) _ k) ?_
  refine o_q T23 (o_f7 m 26 pp time [(.int (lcmpW time (xs (1 : Int32).toNatClampNeg)))]) (fun _ k => XS.lcmp X23.here hx rfl (hb hby o_d12_25) rfl k) ?_
  by_cases c1 : time < (xs (1 : Int32).toNatClampNeg)
  ·refine o_q T23 (o_f7 m 29 pp time []) (fun _ k => XS.ifNo X23.here hx rfl (hb hby o_d12_26) rfl ((if0 _ _).trans (tlt ((lw_lt _ _).mpr c1)).2.1) k) ?_
   refine o_q T23 (o_f7 m 30 pp time [(.ref pp)]) (fun _ k => XS.aloadN X23.here hx rfl (hb hby o_d12_29) rfl rfl k) ?_
   obtain ⟨T25, X25, e25, st25⟩ := getF X23 hx hZ hown (host := "") (Or.inl (o_m hw 92 rfl)) Via.refl e23 F1_head (g := (o_f7 m 30 pp time [(.ref pp)])) rfl rfl (hb hby o_d12_30)
   refine o_q T25 (o_f7 m 33 pp time [(.int (0 : Int32))]) st25 ?_
   have hP26 : o_Pr Z n0 pp rc ru wa tm fr tl la L ch gb xs fs rs h0 := ⟨Ep1, Er1, Ew1, F1_cpus, F1_times, F1_free, F1_head, F1_tail, F1_lastAt, F1_runs, F1_firstKnown, F1_watcher, F1_watchedAs, F1_changes, F1_merged, F1_gaveBack, F1_recent, Fn1, At1, Af1, Ar1, nt1, wl1, gp1, gt1, gf1, gr1, gu1⟩
   have q27 : 0 ≤ (0 : Int32).toInt := by
    have k1 : (0 : Int32).toInt = 0 := by decide
    have k2 : (1 : Int32).toInt = 1 := by decide
    have r3 := rng32 tl
    have d0 : ¬ ((1 : Int32).toInt = tl.toInt) := fun q => c0 (Int32.toInt_inj.mp q)
    omega
   have q28 : (0 : Int32).toInt < tl.toInt := by
    have k1 : (0 : Int32).toInt = 0 := by decide
    have k2 : (1 : Int32).toInt = 1 := by decide
    have r3 := rng32 tl
    have d0 : ¬ ((1 : Int32).toInt = tl.toInt) := fun q => c0 (Int32.toInt_inj.mp q)
    omega
   refine o_retI X25 hx hlk hret (hb hby o_d12_33) ?_ (o_b rfl) (o_b rfl)
   rw [e25]
   exact ⟨(0 : Int32), la, rfl, Fr.nil _, hP26, q27, q28, (fun q => q)⟩
  ·refine o_q T23 (o_f7 m 34 pp time []) (fun _ k => XS.ifYes X23.here hx rfl (pc0 := 26) (pc' := 34) rfl (hb hby o_d12_26) rfl ((if0 _ _).trans (flt (mt (lw_lt _ _).mp c1)).2.1) (by decide) (by decide) k) ?_
   refine o_q T23 (o_f7 m 35 pp time [(.ref pp)]) (fun _ k => XS.aloadN X23.here hx rfl (hb hby o_d12_34) rfl rfl k) ?_
   obtain ⟨T29, X29, e29, st29⟩ := getF X23 hx hZ hown (host := "") (Or.inl (o_m hw 105 rfl)) Via.refl e23 F1_lastAt (g := (o_f7 m 35 pp time [(.ref pp)])) rfl rfl (hb hby o_d12_35)
   refine o_q T29 (o_f7 m 38 pp time [(.int la)]) st29 ?_
   refine o_q T29 (o_f7 m 39 pp time [(.ref pp), (.int la)]) (fun _ k => XS.aloadN X29.here hx rfl (hb hby o_d12_38) rfl rfl k) ?_
   obtain ⟨T30, X30, e30, st30⟩ := getF X29 hx hZ hown (host := "") (Or.inl (o_m hw 92 rfl)) Via.refl e29 F1_head (g := (o_f7 m 39 pp time [(.ref pp), (.int la)])) rfl rfl (hb hby o_d12_39)
   refine o_q T30 (o_f7 m 42 pp time [(.int (0 : Int32)), (.int la)]) st30 ?_
   by_cases c2 : la < (0 : Int32)
   ·refine o_q T30 (o_f7 m 63 pp time []) (fun _ k => XS.icmpYes X30.here hx rfl (pc0 := 42) (pc' := 63) rfl (hb hby o_d12_42) rfl (tlt c2).1 (by decide) (by decide) k) ?_
    refine o_q T30 (o_f7 m 64 pp time [(.ref pp)]) (fun _ k => XS.aloadN X30.here hx rfl (hb hby o_d12_63) rfl rfl k) ?_
    obtain ⟨T31, X31, e31, st31⟩ := getF X30 hx hZ hown (host := "") (Or.inl (o_m hw 92 rfl)) Via.refl e30 F1_head (g := (o_f7 m 64 pp time [(.ref pp)])) rfl rfl (hb hby o_d12_64)
    refine o_q T31 (o_f7 m 67 pp time [(.int (0 : Int32))]) st31 ?_
    refine o_q T31 (o_f8 m 68 pp time (0 : Int32) []) (fun _ k => XS.istoreN X31.here hx rfl (hb hby o_d12_67) rfl (l' := (o_t8 pp time (0 : Int32))) rfl k) ?_
    refine o_q T31 (o_f8 m 69 pp time (0 : Int32) [(.ref pp)]) (fun _ k => XS.aloadN X31.here hx rfl (hb hby o_d12_68) rfl rfl k) ?_
    refine o_q T31 (o_f8 m 70 pp time (0 : Int32) [(.ref pp), (.ref pp)]) (fun _ k => XS.aloadN X31.here hx rfl (hb hby o_d12_69) rfl rfl k) ?_
    obtain ⟨T32, X32, e32, st32⟩ := getF X31 hx hZ hown (host := "") (Or.inl (o_m hw 43 rfl)) Via.refl e31 F1_times (g := (o_f8 m 70 pp time (0 : Int32) [(.ref pp), (.ref pp)])) rfl rfl (hb hby o_d12_70)
    refine o_q T32 (o_f8 m 73 pp time (0 : Int32) [(.ref tm), (.ref pp)]) st32 ?_
    refine o_q T32 (o_f8 m 74 pp time (0 : Int32) [(.ref pp), (.ref tm), (.ref pp)]) (fun _ k => XS.aloadN X32.here hx rfl (hb hby o_d12_73) rfl rfl k) ?_
    obtain ⟨T33, X33, e33, st33⟩ := getF X32 hx hZ hown (host := "") (Or.inl (o_m hw 92 rfl)) Via.refl e32 F1_head (g := (o_f8 m 74 pp time (0 : Int32) [(.ref pp), (.ref tm), (.ref pp)])) rfl rfl (hb hby o_d12_74)
    refine o_q T33 (o_f8 m 77 pp time (0 : Int32) [(.int (0 : Int32)), (.ref tm), (.ref pp)]) st33 ?_
    refine o_q T33 (o_f8 m 78 pp time (0 : Int32) [(.ref pp), (.int (0 : Int32)), (.ref tm), (.ref pp)]) (fun _ k => XS.aloadN X33.here hx rfl (hb hby o_d12_77) rfl rfl k) ?_
    obtain ⟨T34, X34, e34, st34⟩ := getF X33 hx hZ hown (host := "") (Or.inl (o_m hw 48 rfl)) Via.refl e33 F1_tail (g := (o_f8 m 78 pp time (0 : Int32) [(.ref pp), (.int (0 : Int32)), (.ref tm), (.ref pp)])) rfl rfl (hb hby o_d12_78)
    refine o_q T34 (o_f8 m 81 pp time (0 : Int32) [(.int tl), (.int (0 : Int32)), (.ref tm), (.ref pp)]) st34 ?_
    refine o_q T34 (o_f8 m 82 pp time (0 : Int32) [(.int (0 : Int32)), (.int tl), (.int (0 : Int32)), (.ref tm), (.ref pp)]) (fun _ k => XS.iloadN X34.here hx rfl (hb hby o_d12_81) rfl k) ?_
    refine o_q T34 (o_f8 m 83 pp time (0 : Int32) [(.long time), (.int (0 : Int32)), (.int tl), (.int (0 : Int32)), (.ref tm), (.ref pp)]) (fun _ k => XS.lloadN X34.here hx rfl (hb hby o_d12_82) rfl k) ?_
    have q35 : 0 ≤ (0 : Int32).toInt := by
     have k1 : (0 : Int32).toInt = 0 := by decide
     have k2 : (1 : Int32).toInt = 1 := by decide
     have r3 := rng32 tl
     have r4 := rng32 la
     have d0 : ¬ ((1 : Int32).toInt = tl.toInt) := fun q => c0 (Int32.toInt_inj.mp q)
     have d2 : la.toInt < (0 : Int32).toInt := Int32.lt_iff_toInt_lt.mp c2
     omega
    have q36 : (0 : Int32).toInt ≤ (0 : Int32).toInt := by
     have k1 : (0 : Int32).toInt = 0 := by decide
     have k2 : (1 : Int32).toInt = 1 := by decide
     have r3 := rng32 tl
     have r4 := rng32 la
     have d0 : ¬ ((1 : Int32).toInt = tl.toInt) := fun q => c0 (Int32.toInt_inj.mp q)
     have d2 : la.toInt < (0 : Int32).toInt := Int32.lt_iff_toInt_lt.mp c2
     omega
    have q37 : (0 : Int32).toInt < tl.toInt := by
     have k1 : (0 : Int32).toInt = 0 := by decide
     have r2 := rng32 tl
     have k3 : (1 : Int32).toInt = 1 := by decide
     have r4 := rng32 la
     have d0 : ¬ ((1 : Int32).toInt = tl.toInt) := fun q => c0 (Int32.toInt_inj.mp q)
     have d2 : la.toInt < (0 : Int32).toInt := Int32.lt_iff_toInt_lt.mp c2
     omega
    have q38 : tl.toInt ≤ L.toInt := by
     have r1 := rng32 tl
     have r2 := rng32 L
     have k3 : (1 : Int32).toInt = 1 := by decide
     have r4 := rng32 la
     have k5 : (0 : Int32).toInt = 0 := by decide
     have d0 : ¬ ((1 : Int32).toInt = tl.toInt) := fun q => c0 (Int32.toInt_inj.mp q)
     have d2 : la.toInt < (0 : Int32).toInt := Int32.lt_iff_toInt_lt.mp c2
     omega
    have q39 : L.toInt ≤ 64 := by
     have r1 := rng32 L
     have k2 : (1 : Int32).toInt = 1 := by decide
     have r3 := rng32 tl
     have r4 := rng32 la
     have k5 : (0 : Int32).toInt = 0 := by decide
     have d0 : ¬ ((1 : Int32).toInt = tl.toInt) := fun q => c0 (Int32.toInt_inj.mp q)
     have d2 : la.toInt < (0 : Int32).toInt := Int32.lt_iff_toInt_lt.mp c2
     omega
    obtain ⟨v40, T40, L40, hQ40, X40, st40⟩ := o_callS X34 hx hZ e34 hown (o_m hw 107 rfl) (o_m hw 108 rfl) (by decide) (o_m hw 109 rfl) (o_m hw 9 rfl) (o_place l Z a0 hw tm L (0 : Int32) tl (0 : Int32) time xs h0 At1 q35 q36 q37 q38 q39) (g := (o_f8 m 83 pp time (0 : Int32) [(.long time), (.int (0 : Int32)), (.int tl), (.int (0 : Int32)), (.ref tm), (.ref pp)])) rfl (by rw [hml]; rfl) rfl (argsL := [(.ref tm), (.int (0 : Int32)), (.int tl), (.int (0 : Int32)), (.long time)]) (rest := [(.ref pp)]) rfl (lenOf o_pd14 rfl) rfl (hb hby o_d12_83) (o_b rfl) (o_b rfl) (o_b rfl) (o_b rfl)
    obtain ⟨r40, rfl, rfl, e40, u40, v40x, w40⟩ := hQ40
    rw [List.append_nil] at X40
    refine o_q T40 (o_f8 m 86 pp time (0 : Int32) [(.int r40), (.ref pp)]) st40 ?_
    obtain ⟨T41, h41, X41, e41, W41, st41⟩ := putF X40 hx hZ hown (host := "") (Or.inl (o_m hw 105 rfl)) Via.refl e40 F1_lastAt Ep1 (Or.inl (o_m hw 106 rfl)) (o_m hw 8 rfl) (ty := .int) (by decide) rfl rfl (g := (o_f8 m 86 pp time (0 : Int32) [(.int r40), (.ref pp)])) rfl rfl (hb hby o_d12_86)
    have Fw41 := F1_lastAt.same W41
    have N_41 := Fr.snoc X41 (Fr.nil _) gp1
    have Y42 := Ep1.wr W41
    have Y43 := Er1.wr W41
    have Y44 := Ew1.wr W41
    have Y45 := F1_cpus.other W41 (o_sn (Or.inr (o_m hw 41 rfl)) (Or.inl (o_m hw 106 rfl)))
    have Y46 := F1_times.other W41 (o_sn (Or.inl (o_m hw 44 rfl)) (Or.inl (o_m hw 106 rfl)))
    have Y47 := F1_free.other W41 (o_sn (Or.inl (o_m hw 47 rfl)) (Or.inl (o_m hw 106 rfl)))
    have Y48 := F1_head.other W41 (o_sn (Or.inl (o_m hw 93 rfl)) (Or.inl (o_m hw 106 rfl)))
    have Y49 := F1_tail.other W41 (o_sn (Or.inl (o_m hw 49 rfl)) (Or.inl (o_m hw 106 rfl)))
    have Y51 := F1_runs.other W41 (o_sn (Or.inr (o_m hw 26 rfl)) (Or.inl (o_m hw 106 rfl)))
    have Y52 := F1_firstKnown.other W41 (o_sn (Or.inl (o_m hw 64 rfl)) (Or.inl (o_m hw 106 rfl)))
    have Y53 := F1_watcher.other W41 (o_sn (Or.inl (o_m hw 39 rfl)) (Or.inl (o_m hw 106 rfl)))
    have Y54 := F1_watchedAs.other W41 (o_sn (Or.inl (o_m hw 66 rfl)) (Or.inl (o_m hw 106 rfl)))
    have Y55 := F1_changes.other W41 (o_sn (Or.inl (o_m hw 78 rfl)) (Or.inl (o_m hw 106 rfl)))
    have Y56 := F1_merged.other W41 (o_sn (Or.inl (o_m hw 132 rfl)) (Or.inl (o_m hw 106 rfl)))
    have Y57 := F1_gaveBack.other W41 (o_sn (Or.inl (o_m hw 166 rfl)) (Or.inl (o_m hw 106 rfl)))
    have Y58 := F1_recent.other W41 (o_sn (Or.inr (o_m hw 35 rfl)) (Or.inl (o_m hw 106 rfl)))
    have Y59 := Fn1.other W41 (Or.inl (Ne.symm ne2))
    have Y60 := At1.other W41 (Ne.symm ne3)
    have Y61 := Af1.other W41 (Ne.symm ne5)
    have Y62 := Ar1.other W41 (Ne.symm ne7)
    refine o_q T41 (o_f8 m 89 pp time (0 : Int32) []) st41 ?_
    refine o_q T41 (o_f8 m 90 pp time (0 : Int32) [(.ref pp)]) (fun _ k => XS.aloadN X41.here hx rfl (hb hby o_d12_89) rfl rfl k) ?_
    obtain ⟨T63, X63, e63, st63⟩ := getF X41 hx hZ hown (host := "") (Or.inl (o_m hw 105 rfl)) Via.refl e41 Fw41 (g := (o_f8 m 90 pp time (0 : Int32) [(.ref pp)])) rfl rfl (hb hby o_d12_90)
    refine o_q T63 (o_f8 m 93 pp time (0 : Int32) [(.int r40)]) st63 ?_
    have hP64 : o_Pr Z n0 pp rc ru wa tm fr tl r40 L ch gb xs fs rs h41 := ⟨Y42, Y43, Y44, Y45, Y46, Y47, Y48, Y49, Fw41, Y51, Y52, Y53, Y54, Y55, Y56, Y57, Y58, Y59, Y60, Y61, Y62, nt1, wl1, gp1, gt1, gf1, gr1, gu1⟩
    have q65 : 0 ≤ r40.toInt := by
     have r1 := rng32 r40
     have k2 : (1 : Int32).toInt = 1 := by decide
     have r3 := rng32 tl
     have r4 := rng32 la
     have k5 : (0 : Int32).toInt = 0 := by decide
     have d0 : ¬ ((1 : Int32).toInt = tl.toInt) := fun q => c0 (Int32.toInt_inj.mp q)
     have d2 : la.toInt < (0 : Int32).toInt := Int32.lt_iff_toInt_lt.mp c2
     omega
    have q66 : r40.toInt < tl.toInt := by
     have r1 := rng32 r40
     have k2 : (1 : Int32).toInt = 1 := by decide
     have r3 := rng32 tl
     have r4 := rng32 la
     have k5 : (0 : Int32).toInt = 0 := by decide
     have d0 : ¬ ((1 : Int32).toInt = tl.toInt) := fun q => c0 (Int32.toInt_inj.mp q)
     have d2 : la.toInt < (0 : Int32).toInt := Int32.lt_iff_toInt_lt.mp c2
     omega
    refine o_retI X63 hx hlk hret (hb hby o_d12_93) ?_ (o_b rfl) (o_b rfl)
    rw [e63]
    exact ⟨r40, r40, rfl, N_41, hP64, q65, q66, w40⟩
   ·refine o_q T30 (o_f7 m 45 pp time []) (fun _ k => XS.icmpNo X30.here hx rfl (hb hby o_d12_42) rfl (flt c2).1 k) ?_
    refine o_q T30 (o_f7 m 46 pp time [(.ref pp)]) (fun _ k => XS.aloadN X30.here hx rfl (hb hby o_d12_45) rfl rfl k) ?_
    obtain ⟨T67, X67, e67, st67⟩ := getF X30 hx hZ hown (host := "") (Or.inl (o_m hw 105 rfl)) Via.refl e30 F1_lastAt (g := (o_f7 m 46 pp time [(.ref pp)])) rfl rfl (hb hby o_d12_46)
    refine o_q T67 (o_f7 m 49 pp time [(.int la)]) st67 ?_
    refine o_q T67 (o_f7 m 50 pp time [(.ref pp), (.int la)]) (fun _ k => XS.aloadN X67.here hx rfl (hb hby o_d12_49) rfl rfl k) ?_
    obtain ⟨T68, X68, e68, st68⟩ := getF X67 hx hZ hown (host := "") (Or.inl (o_m hw 48 rfl)) Via.refl e67 F1_tail (g := (o_f7 m 50 pp time [(.ref pp), (.int la)])) rfl rfl (hb hby o_d12_50)
    refine o_q T68 (o_f7 m 53 pp time [(.int tl), (.int la)]) st68 ?_
    by_cases c3 : la < tl
    ·refine o_q T68 (o_f7 m 56 pp time []) (fun _ k => XS.icmpNo X68.here hx rfl (hb hby o_d12_53) rfl (tlt c3).2.1 k) ?_
     refine o_q T68 (o_f7 m 57 pp time [(.ref pp)]) (fun _ k => XS.aloadN X68.here hx rfl (hb hby o_d12_56) rfl rfl k) ?_
     obtain ⟨T69, X69, e69, st69⟩ := getF X68 hx hZ hown (host := "") (Or.inl (o_m hw 105 rfl)) Via.refl e68 F1_lastAt (g := (o_f7 m 57 pp time [(.ref pp)])) rfl rfl (hb hby o_d12_57)
     refine o_q T69 (o_f7 m 60 pp time [(.int la)]) st69 ?_
     refine o_q T69 (o_f7 m 67 pp time [(.int la)]) (fun _ k => XS.goto X69.here hx rfl (pc0 := 60) (pc' := 67) rfl (hb hby o_d12_60) (by decide) (by decide) k) ?_
     refine o_q T69 (o_f8 m 68 pp time la []) (fun _ k => XS.istoreN X69.here hx rfl (hb hby o_d12_67) rfl (l' := (o_t8 pp time la)) rfl k) ?_
     refine o_q T69 (o_f8 m 69 pp time la [(.ref pp)]) (fun _ k => XS.aloadN X69.here hx rfl (hb hby o_d12_68) rfl rfl k) ?_
     refine o_q T69 (o_f8 m 70 pp time la [(.ref pp), (.ref pp)]) (fun _ k => XS.aloadN X69.here hx rfl (hb hby o_d12_69) rfl rfl k) ?_
     obtain ⟨T70, X70, e70, st70⟩ := getF X69 hx hZ hown (host := "") (Or.inl (o_m hw 43 rfl)) Via.refl e69 F1_times (g := (o_f8 m 70 pp time la [(.ref pp), (.ref pp)])) rfl rfl (hb hby o_d12_70)
     refine o_q T70 (o_f8 m 73 pp time la [(.ref tm), (.ref pp)]) st70 ?_
     refine o_q T70 (o_f8 m 74 pp time la [(.ref pp), (.ref tm), (.ref pp)]) (fun _ k => XS.aloadN X70.here hx rfl (hb hby o_d12_73) rfl rfl k) ?_
     obtain ⟨T71, X71, e71, st71⟩ := getF X70 hx hZ hown (host := "") (Or.inl (o_m hw 92 rfl)) Via.refl e70 F1_head (g := (o_f8 m 74 pp time la [(.ref pp), (.ref tm), (.ref pp)])) rfl rfl (hb hby o_d12_74)
     refine o_q T71 (o_f8 m 77 pp time la [(.int (0 : Int32)), (.ref tm), (.ref pp)]) st71 ?_
     refine o_q T71 (o_f8 m 78 pp time la [(.ref pp), (.int (0 : Int32)), (.ref tm), (.ref pp)]) (fun _ k => XS.aloadN X71.here hx rfl (hb hby o_d12_77) rfl rfl k) ?_
     obtain ⟨T72, X72, e72, st72⟩ := getF X71 hx hZ hown (host := "") (Or.inl (o_m hw 48 rfl)) Via.refl e71 F1_tail (g := (o_f8 m 78 pp time la [(.ref pp), (.int (0 : Int32)), (.ref tm), (.ref pp)])) rfl rfl (hb hby o_d12_78)
     refine o_q T72 (o_f8 m 81 pp time la [(.int tl), (.int (0 : Int32)), (.ref tm), (.ref pp)]) st72 ?_
     refine o_q T72 (o_f8 m 82 pp time la [(.int la), (.int tl), (.int (0 : Int32)), (.ref tm), (.ref pp)]) (fun _ k => XS.iloadN X72.here hx rfl (hb hby o_d12_81) rfl k) ?_
     refine o_q T72 (o_f8 m 83 pp time la [(.long time), (.int la), (.int tl), (.int (0 : Int32)), (.ref tm), (.ref pp)]) (fun _ k => XS.lloadN X72.here hx rfl (hb hby o_d12_82) rfl k) ?_
     have q73 : 0 ≤ (0 : Int32).toInt := by
      have k1 : (0 : Int32).toInt = 0 := by decide
      have k2 : (1 : Int32).toInt = 1 := by decide
      have r3 := rng32 tl
      have r4 := rng32 la
      have d0 : ¬ ((1 : Int32).toInt = tl.toInt) := fun q => c0 (Int32.toInt_inj.mp q)
      have d2 : ¬ (la.toInt < (0 : Int32).toInt) := mt Int32.lt_iff_toInt_lt.mpr c2
      have d3 : la.toInt < tl.toInt := Int32.lt_iff_toInt_lt.mp c3
      omega
     have q74 : (0 : Int32).toInt ≤ la.toInt := by
      have k1 : (0 : Int32).toInt = 0 := by decide
      have r2 := rng32 la
      have k3 : (1 : Int32).toInt = 1 := by decide
      have r4 := rng32 tl
      have d0 : ¬ ((1 : Int32).toInt = tl.toInt) := fun q => c0 (Int32.toInt_inj.mp q)
      have d2 : ¬ (la.toInt < (0 : Int32).toInt) := mt Int32.lt_iff_toInt_lt.mpr c2
      have d3 : la.toInt < tl.toInt := Int32.lt_iff_toInt_lt.mp c3
      omega
     have q75 : la.toInt < tl.toInt := by
      have r1 := rng32 la
      have r2 := rng32 tl
      have k3 : (1 : Int32).toInt = 1 := by decide
      have k4 : (0 : Int32).toInt = 0 := by decide
      have d0 : ¬ ((1 : Int32).toInt = tl.toInt) := fun q => c0 (Int32.toInt_inj.mp q)
      have d2 : ¬ (la.toInt < (0 : Int32).toInt) := mt Int32.lt_iff_toInt_lt.mpr c2
      have d3 : la.toInt < tl.toInt := Int32.lt_iff_toInt_lt.mp c3
      omega
     have q76 : tl.toInt ≤ L.toInt := by
      have r1 := rng32 tl
      have r2 := rng32 L
      have k3 : (1 : Int32).toInt = 1 := by decide
      have r4 := rng32 la
      have k5 : (0 : Int32).toInt = 0 := by decide
      have d0 : ¬ ((1 : Int32).toInt = tl.toInt) := fun q => c0 (Int32.toInt_inj.mp q)
      have d2 : ¬ (la.toInt < (0 : Int32).toInt) := mt Int32.lt_iff_toInt_lt.mpr c2
      have d3 : la.toInt < tl.toInt := Int32.lt_iff_toInt_lt.mp c3
      omega
     have q77 : L.toInt ≤ 64 := by
      have r1 := rng32 L
      have k2 : (1 : Int32).toInt = 1 := by decide
      have r3 := rng32 tl
      have r4 := rng32 la
      have k5 : (0 : Int32).toInt = 0 := by decide
      have d0 : ¬ ((1 : Int32).toInt = tl.toInt) := fun q => c0 (Int32.toInt_inj.mp q)
      have d2 : ¬ (la.toInt < (0 : Int32).toInt) := mt Int32.lt_iff_toInt_lt.mpr c2
      have d3 : la.toInt < tl.toInt := Int32.lt_iff_toInt_lt.mp c3
      omega
     obtain ⟨v78, T78, L78, hQ78, X78, st78⟩ := o_callS X72 hx hZ e72 hown (o_m hw 107 rfl) (o_m hw 108 rfl) (by decide) (o_m hw 109 rfl) (o_m hw 9 rfl) (o_place l Z a0 hw tm L (0 : Int32) tl la time xs h0 At1 q73 q74 q75 q76 q77) (g := (o_f8 m 83 pp time la [(.long time), (.int la), (.int tl), (.int (0 : Int32)), (.ref tm), (.ref pp)])) rfl (by rw [hml]; rfl) rfl (argsL := [(.ref tm), (.int (0 : Int32)), (.int tl), (.int la), (.long time)]) (rest := [(.ref pp)]) rfl (lenOf o_pd14 rfl) rfl (hb hby o_d12_83) (o_b rfl) (o_b rfl) (o_b rfl) (o_b rfl)
     obtain ⟨r78, rfl, rfl, e78, u78, v78x, w78⟩ := hQ78
     rw [List.append_nil] at X78
     refine o_q T78 (o_f8 m 86 pp time la [(.int r78), (.ref pp)]) st78 ?_
     obtain ⟨T79, h79, X79, e79, W79, st79⟩ := putF X78 hx hZ hown (host := "") (Or.inl (o_m hw 105 rfl)) Via.refl e78 F1_lastAt Ep1 (Or.inl (o_m hw 106 rfl)) (o_m hw 8 rfl) (ty := .int) (by decide) rfl rfl (g := (o_f8 m 86 pp time la [(.int r78), (.ref pp)])) rfl rfl (hb hby o_d12_86)
     have Fw79 := F1_lastAt.same W79
     have N_79 := Fr.snoc X79 (Fr.nil _) gp1
     have Y80 := Ep1.wr W79
     have Y81 := Er1.wr W79
     have Y82 := Ew1.wr W79
     have Y83 := F1_cpus.other W79 (o_sn (Or.inr (o_m hw 41 rfl)) (Or.inl (o_m hw 106 rfl)))
     have Y84 := F1_times.other W79 (o_sn (Or.inl (o_m hw 44 rfl)) (Or.inl (o_m hw 106 rfl)))
     have Y85 := F1_free.other W79 (o_sn (Or.inl (o_m hw 47 rfl)) (Or.inl (o_m hw 106 rfl)))
     have Y86 := F1_head.other W79 (o_sn (Or.inl (o_m hw 93 rfl)) (Or.inl (o_m hw 106 rfl)))
     have Y87 := F1_tail.other W79 (o_sn (Or.inl (o_m hw 49 rfl)) (Or.inl (o_m hw 106 rfl)))
     have Y89 := F1_runs.other W79 (o_sn (Or.inr (o_m hw 26 rfl)) (Or.inl (o_m hw 106 rfl)))
     have Y90 := F1_firstKnown.other W79 (o_sn (Or.inl (o_m hw 64 rfl)) (Or.inl (o_m hw 106 rfl)))
     have Y91 := F1_watcher.other W79 (o_sn (Or.inl (o_m hw 39 rfl)) (Or.inl (o_m hw 106 rfl)))
     have Y92 := F1_watchedAs.other W79 (o_sn (Or.inl (o_m hw 66 rfl)) (Or.inl (o_m hw 106 rfl)))
     have Y93 := F1_changes.other W79 (o_sn (Or.inl (o_m hw 78 rfl)) (Or.inl (o_m hw 106 rfl)))
     have Y94 := F1_merged.other W79 (o_sn (Or.inl (o_m hw 132 rfl)) (Or.inl (o_m hw 106 rfl)))
     have Y95 := F1_gaveBack.other W79 (o_sn (Or.inl (o_m hw 166 rfl)) (Or.inl (o_m hw 106 rfl)))
     have Y96 := F1_recent.other W79 (o_sn (Or.inr (o_m hw 35 rfl)) (Or.inl (o_m hw 106 rfl)))
     have Y97 := Fn1.other W79 (Or.inl (Ne.symm ne2))
     have Y98 := At1.other W79 (Ne.symm ne3)
     have Y99 := Af1.other W79 (Ne.symm ne5)
     have Y100 := Ar1.other W79 (Ne.symm ne7)
     refine o_q T79 (o_f8 m 89 pp time la []) st79 ?_
     refine o_q T79 (o_f8 m 90 pp time la [(.ref pp)]) (fun _ k => XS.aloadN X79.here hx rfl (hb hby o_d12_89) rfl rfl k) ?_
     obtain ⟨T101, X101, e101, st101⟩ := getF X79 hx hZ hown (host := "") (Or.inl (o_m hw 105 rfl)) Via.refl e79 Fw79 (g := (o_f8 m 90 pp time la [(.ref pp)])) rfl rfl (hb hby o_d12_90)
     refine o_q T101 (o_f8 m 93 pp time la [(.int r78)]) st101 ?_
     have hP102 : o_Pr Z n0 pp rc ru wa tm fr tl r78 L ch gb xs fs rs h79 := ⟨Y80, Y81, Y82, Y83, Y84, Y85, Y86, Y87, Fw79, Y89, Y90, Y91, Y92, Y93, Y94, Y95, Y96, Y97, Y98, Y99, Y100, nt1, wl1, gp1, gt1, gf1, gr1, gu1⟩
     have q103 : 0 ≤ r78.toInt := by
      have r1 := rng32 r78
      have k2 : (1 : Int32).toInt = 1 := by decide
      have r3 := rng32 tl
      have r4 := rng32 la
      have k5 : (0 : Int32).toInt = 0 := by decide
      have d0 : ¬ ((1 : Int32).toInt = tl.toInt) := fun q => c0 (Int32.toInt_inj.mp q)
      have d2 : ¬ (la.toInt < (0 : Int32).toInt) := mt Int32.lt_iff_toInt_lt.mpr c2
      have d3 : la.toInt < tl.toInt := Int32.lt_iff_toInt_lt.mp c3
      omega
     have q104 : r78.toInt < tl.toInt := by
      have r1 := rng32 r78
      have k2 : (1 : Int32).toInt = 1 := by decide
      have r3 := rng32 tl
      have r4 := rng32 la
      have k5 : (0 : Int32).toInt = 0 := by decide
      have d0 : ¬ ((1 : Int32).toInt = tl.toInt) := fun q => c0 (Int32.toInt_inj.mp q)
      have d2 : ¬ (la.toInt < (0 : Int32).toInt) := mt Int32.lt_iff_toInt_lt.mpr c2
      have d3 : la.toInt < tl.toInt := Int32.lt_iff_toInt_lt.mp c3
      omega
     refine o_retI X101 hx hlk hret (hb hby o_d12_93) ?_ (o_b rfl) (o_b rfl)
     rw [e101]
     exact ⟨r78, r78, rfl, N_79, hP102, q103, q104, w78⟩
    ·refine o_q T68 (o_f7 m 63 pp time []) (fun _ k => XS.icmpYes X68.here hx rfl (pc0 := 53) (pc' := 63) rfl (hb hby o_d12_53) rfl (flt c3).2.1 (by decide) (by decide) k) ?_
     refine o_q T68 (o_f7 m 64 pp time [(.ref pp)]) (fun _ k => XS.aloadN X68.here hx rfl (hb hby o_d12_63) rfl rfl k) ?_
     obtain ⟨T105, X105, e105, st105⟩ := getF X68 hx hZ hown (host := "") (Or.inl (o_m hw 92 rfl)) Via.refl e68 F1_head (g := (o_f7 m 64 pp time [(.ref pp)])) rfl rfl (hb hby o_d12_64)
     refine o_q T105 (o_f7 m 67 pp time [(.int (0 : Int32))]) st105 ?_
     refine o_q T105 (o_f8 m 68 pp time (0 : Int32) []) (fun _ k => XS.istoreN X105.here hx rfl (hb hby o_d12_67) rfl (l' := (o_t8 pp time (0 : Int32))) rfl k) ?_
     refine o_q T105 (o_f8 m 69 pp time (0 : Int32) [(.ref pp)]) (fun _ k => XS.aloadN X105.here hx rfl (hb hby o_d12_68) rfl rfl k) ?_
     refine o_q T105 (o_f8 m 70 pp time (0 : Int32) [(.ref pp), (.ref pp)]) (fun _ k => XS.aloadN X105.here hx rfl (hb hby o_d12_69) rfl rfl k) ?_
     obtain ⟨T106, X106, e106, st106⟩ := getF X105 hx hZ hown (host := "") (Or.inl (o_m hw 43 rfl)) Via.refl e105 F1_times (g := (o_f8 m 70 pp time (0 : Int32) [(.ref pp), (.ref pp)])) rfl rfl (hb hby o_d12_70)
     refine o_q T106 (o_f8 m 73 pp time (0 : Int32) [(.ref tm), (.ref pp)]) st106 ?_
     refine o_q T106 (o_f8 m 74 pp time (0 : Int32) [(.ref pp), (.ref tm), (.ref pp)]) (fun _ k => XS.aloadN X106.here hx rfl (hb hby o_d12_73) rfl rfl k) ?_
     obtain ⟨T107, X107, e107, st107⟩ := getF X106 hx hZ hown (host := "") (Or.inl (o_m hw 92 rfl)) Via.refl e106 F1_head (g := (o_f8 m 74 pp time (0 : Int32) [(.ref pp), (.ref tm), (.ref pp)])) rfl rfl (hb hby o_d12_74)
     refine o_q T107 (o_f8 m 77 pp time (0 : Int32) [(.int (0 : Int32)), (.ref tm), (.ref pp)]) st107 ?_
     refine o_q T107 (o_f8 m 78 pp time (0 : Int32) [(.ref pp), (.int (0 : Int32)), (.ref tm), (.ref pp)]) (fun _ k => XS.aloadN X107.here hx rfl (hb hby o_d12_77) rfl rfl k) ?_
     obtain ⟨T108, X108, e108, st108⟩ := getF X107 hx hZ hown (host := "") (Or.inl (o_m hw 48 rfl)) Via.refl e107 F1_tail (g := (o_f8 m 78 pp time (0 : Int32) [(.ref pp), (.int (0 : Int32)), (.ref tm), (.ref pp)])) rfl rfl (hb hby o_d12_78)
     refine o_q T108 (o_f8 m 81 pp time (0 : Int32) [(.int tl), (.int (0 : Int32)), (.ref tm), (.ref pp)]) st108 ?_
     refine o_q T108 (o_f8 m 82 pp time (0 : Int32) [(.int (0 : Int32)), (.int tl), (.int (0 : Int32)), (.ref tm), (.ref pp)]) (fun _ k => XS.iloadN X108.here hx rfl (hb hby o_d12_81) rfl k) ?_
     refine o_q T108 (o_f8 m 83 pp time (0 : Int32) [(.long time), (.int (0 : Int32)), (.int tl), (.int (0 : Int32)), (.ref tm), (.ref pp)]) (fun _ k => XS.lloadN X108.here hx rfl (hb hby o_d12_82) rfl k) ?_
     have q109 : 0 ≤ (0 : Int32).toInt := by
      have k1 : (0 : Int32).toInt = 0 := by decide
      have k2 : (1 : Int32).toInt = 1 := by decide
      have r3 := rng32 tl
      have r4 := rng32 la
      have d0 : ¬ ((1 : Int32).toInt = tl.toInt) := fun q => c0 (Int32.toInt_inj.mp q)
      have d2 : ¬ (la.toInt < (0 : Int32).toInt) := mt Int32.lt_iff_toInt_lt.mpr c2
      have d3 : ¬ (la.toInt < tl.toInt) := mt Int32.lt_iff_toInt_lt.mpr c3
      omega
     have q110 : (0 : Int32).toInt ≤ (0 : Int32).toInt := by
      have k1 : (0 : Int32).toInt = 0 := by decide
      have k2 : (1 : Int32).toInt = 1 := by decide
      have r3 := rng32 tl
      have r4 := rng32 la
      have d0 : ¬ ((1 : Int32).toInt = tl.toInt) := fun q => c0 (Int32.toInt_inj.mp q)
      have d2 : ¬ (la.toInt < (0 : Int32).toInt) := mt Int32.lt_iff_toInt_lt.mpr c2
      have d3 : ¬ (la.toInt < tl.toInt) := mt Int32.lt_iff_toInt_lt.mpr c3
      omega
     have q111 : (0 : Int32).toInt < tl.toInt := by
      have k1 : (0 : Int32).toInt = 0 := by decide
      have r2 := rng32 tl
      have k3 : (1 : Int32).toInt = 1 := by decide
      have r4 := rng32 la
      have d0 : ¬ ((1 : Int32).toInt = tl.toInt) := fun q => c0 (Int32.toInt_inj.mp q)
      have d2 : ¬ (la.toInt < (0 : Int32).toInt) := mt Int32.lt_iff_toInt_lt.mpr c2
      have d3 : ¬ (la.toInt < tl.toInt) := mt Int32.lt_iff_toInt_lt.mpr c3
      omega
     have q112 : tl.toInt ≤ L.toInt := by
      have r1 := rng32 tl
      have r2 := rng32 L
      have k3 : (1 : Int32).toInt = 1 := by decide
      have r4 := rng32 la
      have k5 : (0 : Int32).toInt = 0 := by decide
      have d0 : ¬ ((1 : Int32).toInt = tl.toInt) := fun q => c0 (Int32.toInt_inj.mp q)
      have d2 : ¬ (la.toInt < (0 : Int32).toInt) := mt Int32.lt_iff_toInt_lt.mpr c2
      have d3 : ¬ (la.toInt < tl.toInt) := mt Int32.lt_iff_toInt_lt.mpr c3
      omega
     have q113 : L.toInt ≤ 64 := by
      have r1 := rng32 L
      have k2 : (1 : Int32).toInt = 1 := by decide
      have r3 := rng32 tl
      have r4 := rng32 la
      have k5 : (0 : Int32).toInt = 0 := by decide
      have d0 : ¬ ((1 : Int32).toInt = tl.toInt) := fun q => c0 (Int32.toInt_inj.mp q)
      have d2 : ¬ (la.toInt < (0 : Int32).toInt) := mt Int32.lt_iff_toInt_lt.mpr c2
      have d3 : ¬ (la.toInt < tl.toInt) := mt Int32.lt_iff_toInt_lt.mpr c3
      omega
     obtain ⟨v114, T114, L114, hQ114, X114, st114⟩ := o_callS X108 hx hZ e108 hown (o_m hw 107 rfl) (o_m hw 108 rfl) (by decide) (o_m hw 109 rfl) (o_m hw 9 rfl) (o_place l Z a0 hw tm L (0 : Int32) tl (0 : Int32) time xs h0 At1 q109 q110 q111 q112 q113) (g := (o_f8 m 83 pp time (0 : Int32) [(.long time), (.int (0 : Int32)), (.int tl), (.int (0 : Int32)), (.ref tm), (.ref pp)])) rfl (by rw [hml]; rfl) rfl (argsL := [(.ref tm), (.int (0 : Int32)), (.int tl), (.int (0 : Int32)), (.long time)]) (rest := [(.ref pp)]) rfl (lenOf o_pd14 rfl) rfl (hb hby o_d12_83) (o_b rfl) (o_b rfl) (o_b rfl) (o_b rfl)
     obtain ⟨r114, rfl, rfl, e114, u114, v114x, w114⟩ := hQ114
     rw [List.append_nil] at X114
     refine o_q T114 (o_f8 m 86 pp time (0 : Int32) [(.int r114), (.ref pp)]) st114 ?_
     obtain ⟨T115, h115, X115, e115, W115, st115⟩ := putF X114 hx hZ hown (host := "") (Or.inl (o_m hw 105 rfl)) Via.refl e114 F1_lastAt Ep1 (Or.inl (o_m hw 106 rfl)) (o_m hw 8 rfl) (ty := .int) (by decide) rfl rfl (g := (o_f8 m 86 pp time (0 : Int32) [(.int r114), (.ref pp)])) rfl rfl (hb hby o_d12_86)
     have Fw115 := F1_lastAt.same W115
     have N_115 := Fr.snoc X115 (Fr.nil _) gp1
     have Y116 := Ep1.wr W115
     have Y117 := Er1.wr W115
     have Y118 := Ew1.wr W115
     have Y119 := F1_cpus.other W115 (o_sn (Or.inr (o_m hw 41 rfl)) (Or.inl (o_m hw 106 rfl)))
     have Y120 := F1_times.other W115 (o_sn (Or.inl (o_m hw 44 rfl)) (Or.inl (o_m hw 106 rfl)))
     have Y121 := F1_free.other W115 (o_sn (Or.inl (o_m hw 47 rfl)) (Or.inl (o_m hw 106 rfl)))
     have Y122 := F1_head.other W115 (o_sn (Or.inl (o_m hw 93 rfl)) (Or.inl (o_m hw 106 rfl)))
     have Y123 := F1_tail.other W115 (o_sn (Or.inl (o_m hw 49 rfl)) (Or.inl (o_m hw 106 rfl)))
     have Y125 := F1_runs.other W115 (o_sn (Or.inr (o_m hw 26 rfl)) (Or.inl (o_m hw 106 rfl)))
     have Y126 := F1_firstKnown.other W115 (o_sn (Or.inl (o_m hw 64 rfl)) (Or.inl (o_m hw 106 rfl)))
     have Y127 := F1_watcher.other W115 (o_sn (Or.inl (o_m hw 39 rfl)) (Or.inl (o_m hw 106 rfl)))
     have Y128 := F1_watchedAs.other W115 (o_sn (Or.inl (o_m hw 66 rfl)) (Or.inl (o_m hw 106 rfl)))
     have Y129 := F1_changes.other W115 (o_sn (Or.inl (o_m hw 78 rfl)) (Or.inl (o_m hw 106 rfl)))
     have Y130 := F1_merged.other W115 (o_sn (Or.inl (o_m hw 132 rfl)) (Or.inl (o_m hw 106 rfl)))
     have Y131 := F1_gaveBack.other W115 (o_sn (Or.inl (o_m hw 166 rfl)) (Or.inl (o_m hw 106 rfl)))
     have Y132 := F1_recent.other W115 (o_sn (Or.inr (o_m hw 35 rfl)) (Or.inl (o_m hw 106 rfl)))
     have Y133 := Fn1.other W115 (Or.inl (Ne.symm ne2))
     have Y134 := At1.other W115 (Ne.symm ne3)
     have Y135 := Af1.other W115 (Ne.symm ne5)
     have Y136 := Ar1.other W115 (Ne.symm ne7)
     refine o_q T115 (o_f8 m 89 pp time (0 : Int32) []) st115 ?_
     refine o_q T115 (o_f8 m 90 pp time (0 : Int32) [(.ref pp)]) (fun _ k => XS.aloadN X115.here hx rfl (hb hby o_d12_89) rfl rfl k) ?_
     obtain ⟨T137, X137, e137, st137⟩ := getF X115 hx hZ hown (host := "") (Or.inl (o_m hw 105 rfl)) Via.refl e115 Fw115 (g := (o_f8 m 90 pp time (0 : Int32) [(.ref pp)])) rfl rfl (hb hby o_d12_90)
     refine o_q T137 (o_f8 m 93 pp time (0 : Int32) [(.int r114)]) st137 ?_
     have hP138 : o_Pr Z n0 pp rc ru wa tm fr tl r114 L ch gb xs fs rs h115 := ⟨Y116, Y117, Y118, Y119, Y120, Y121, Y122, Y123, Fw115, Y125, Y126, Y127, Y128, Y129, Y130, Y131, Y132, Y133, Y134, Y135, Y136, nt1, wl1, gp1, gt1, gf1, gr1, gu1⟩
     have q139 : 0 ≤ r114.toInt := by
      have r1 := rng32 r114
      have k2 : (1 : Int32).toInt = 1 := by decide
      have r3 := rng32 tl
      have r4 := rng32 la
      have k5 : (0 : Int32).toInt = 0 := by decide
      have d0 : ¬ ((1 : Int32).toInt = tl.toInt) := fun q => c0 (Int32.toInt_inj.mp q)
      have d2 : ¬ (la.toInt < (0 : Int32).toInt) := mt Int32.lt_iff_toInt_lt.mpr c2
      have d3 : ¬ (la.toInt < tl.toInt) := mt Int32.lt_iff_toInt_lt.mpr c3
      omega
     have q140 : r114.toInt < tl.toInt := by
      have r1 := rng32 r114
      have k2 : (1 : Int32).toInt = 1 := by decide
      have r3 := rng32 tl
      have r4 := rng32 la
      have k5 : (0 : Int32).toInt = 0 := by decide
      have d0 : ¬ ((1 : Int32).toInt = tl.toInt) := fun q => c0 (Int32.toInt_inj.mp q)
      have d2 : ¬ (la.toInt < (0 : Int32).toInt) := mt Int32.lt_iff_toInt_lt.mpr c2
      have d3 : ¬ (la.toInt < tl.toInt) := mt Int32.lt_iff_toInt_lt.mpr c3
      omega
     refine o_retI X137 hx hlk hret (hb hby o_d12_93) ?_ (o_b rfl) (o_b rfl)
     rw [e137]
     exact ⟨r114, r114, rfl, N_115, hP138, q139, q140, w114⟩
theorem o_d11_0 : decode o_y4 0 = .ok (.aload_n 0, 1) := by decide +kernel
theorem o_d11_1 : decode o_y4 1 = .ok (.lload_n 1, 1) := by decide +kernel
theorem o_d11_2 : decode o_y4 2 = .ok (.invokevirtual 63, 3) := by decide +kernel
theorem o_pd7 : parseMethodDescriptor "(J)I" = some ⟨[.long], some .int⟩ := by decide +kernel
theorem o_d11_5 : decode o_y4 5 = .ok (.istore_n 3, 1) := by decide +kernel
theorem o_d11_6 : decode o_y4 6 = .ok (.aload_n 0, 1) := by decide +kernel
theorem o_d11_7 : decode o_y4 7 = .ok (.getfield 46, 3) := by decide +kernel
theorem o_d11_10 : decode o_y4 10 = .ok (.iload_n 3, 1) := by decide +kernel
theorem o_d11_11 : decode o_y4 11 = .ok (.laload, 1) := by decide +kernel
theorem o_d11_12 : decode o_y4 12 = .ok (.lload_n 1, 1) := by decide +kernel
theorem o_d11_13 : decode o_y4 13 = .ok (.lcmp, 1) := by decide +kernel
theorem o_d11_14 : decode o_y4 14 = .ok (.ifCond .ne 5, 3) := by decide +kernel
theorem o_d11_17 : decode o_y4 17 = .ok (.iload_n 3, 1) := by decide +kernel
theorem o_d11_18 : decode o_y4 18 = .ok (.ireturn, 1) := by decide +kernel
theorem o_d11_19 : decode o_y4 19 = .ok (.aload_n 0, 1) := by decide +kernel
theorem o_d11_20 : decode o_y4 20 = .ok (.getfield 46, 3) := by decide +kernel
theorem o_d11_23 : decode o_y4 23 = .ok (.iload_n 3, 1) := by decide +kernel
theorem o_d11_24 : decode o_y4 24 = .ok (.iconst 1, 1) := by decide +kernel
theorem o_d11_25 : decode o_y4 25 = .ok (.iadd, 1) := by decide +kernel
theorem o_d11_26 : decode o_y4 26 = .ok (.aload_n 0, 1) := by decide +kernel
theorem o_d11_27 : decode o_y4 27 = .ok (.getfield 46, 3) := by decide +kernel
theorem o_d11_30 : decode o_y4 30 = .ok (.iload_n 3, 1) := by decide +kernel
theorem o_d11_31 : decode o_y4 31 = .ok (.iconst 2, 1) := by decide +kernel
theorem o_d11_32 : decode o_y4 32 = .ok (.iadd, 1) := by decide +kernel
theorem o_d11_33 : decode o_y4 33 = .ok (.aload_n 0, 1) := by decide +kernel
theorem o_d11_34 : decode o_y4 34 = .ok (.getfield 53, 3) := by decide +kernel
theorem o_d11_37 : decode o_y4 37 = .ok (.iload_n 3, 1) := by decide +kernel
theorem o_d11_38 : decode o_y4 38 = .ok (.isub, 1) := by decide +kernel
theorem o_d11_39 : decode o_y4 39 = .ok (.iconst 1, 1) := by decide +kernel
theorem o_d11_40 : decode o_y4 40 = .ok (.isub, 1) := by decide +kernel
theorem o_d11_41 : decode o_y4 41 = .ok (.invokestatic 244, 3) := by decide +kernel
theorem o_d11_44 : decode o_y4 44 = .ok (.aload_n 0, 1) := by decide +kernel
theorem o_d11_45 : decode o_y4 45 = .ok (.getfield 49, 3) := by decide +kernel
theorem o_d11_48 : decode o_y4 48 = .ok (.iload_n 3, 1) := by decide +kernel
theorem o_d11_49 : decode o_y4 49 = .ok (.iconst 1, 1) := by decide +kernel
theorem o_d11_50 : decode o_y4 50 = .ok (.iadd, 1) := by decide +kernel
theorem o_d11_51 : decode o_y4 51 = .ok (.aload_n 0, 1) := by decide +kernel
theorem o_d11_52 : decode o_y4 52 = .ok (.getfield 49, 3) := by decide +kernel
theorem o_d11_55 : decode o_y4 55 = .ok (.iload_n 3, 1) := by decide +kernel
theorem o_d11_56 : decode o_y4 56 = .ok (.iconst 2, 1) := by decide +kernel
theorem o_d11_57 : decode o_y4 57 = .ok (.iadd, 1) := by decide +kernel
theorem o_d11_58 : decode o_y4 58 = .ok (.aload_n 0, 1) := by decide +kernel
theorem o_d11_59 : decode o_y4 59 = .ok (.getfield 53, 3) := by decide +kernel
theorem o_d11_62 : decode o_y4 62 = .ok (.iload_n 3, 1) := by decide +kernel
theorem o_d11_63 : decode o_y4 63 = .ok (.isub, 1) := by decide +kernel
theorem o_d11_64 : decode o_y4 64 = .ok (.iconst 1, 1) := by decide +kernel
theorem o_d11_65 : decode o_y4 65 = .ok (.isub, 1) := by decide +kernel
theorem o_d11_66 : decode o_y4 66 = .ok (.invokestatic 244, 3) := by decide +kernel
theorem o_d11_69 : decode o_y4 69 = .ok (.aload_n 0, 1) := by decide +kernel
theorem o_d11_70 : decode o_y4 70 = .ok (.getfield 46, 3) := by decide +kernel
theorem o_d11_73 : decode o_y4 73 = .ok (.iload_n 3, 1) := by decide +kernel
theorem o_d11_74 : decode o_y4 74 = .ok (.iconst 1, 1) := by decide +kernel
theorem o_d11_75 : decode o_y4 75 = .ok (.iadd, 1) := by decide +kernel
theorem o_d11_76 : decode o_y4 76 = .ok (.lload_n 1, 1) := by decide +kernel
theorem o_d11_77 : decode o_y4 77 = .ok (.lastore, 1) := by decide +kernel
theorem o_d11_78 : decode o_y4 78 = .ok (.aload_n 0, 1) := by decide +kernel
theorem o_d11_79 : decode o_y4 79 = .ok (.getfield 49, 3) := by decide +kernel
theorem o_d11_82 : decode o_y4 82 = .ok (.iload_n 3, 1) := by decide +kernel
theorem o_d11_83 : decode o_y4 83 = .ok (.iconst 1, 1) := by decide +kernel
theorem o_d11_84 : decode o_y4 84 = .ok (.iadd, 1) := by decide +kernel
theorem o_d11_85 : decode o_y4 85 = .ok (.aload_n 0, 1) := by decide +kernel
theorem o_d11_86 : decode o_y4 86 = .ok (.getfield 49, 3) := by decide +kernel
theorem o_d11_89 : decode o_y4 89 = .ok (.iload_n 3, 1) := by decide +kernel
theorem o_d11_90 : decode o_y4 90 = .ok (.iaload, 1) := by decide +kernel
theorem o_d11_91 : decode o_y4 91 = .ok (.iastore, 1) := by decide +kernel
theorem o_d11_92 : decode o_y4 92 = .ok (.aload_n 0, 1) := by decide +kernel
theorem o_d11_93 : decode o_y4 93 = .ok (.dup, 1) := by decide +kernel
theorem o_d11_94 : decode o_y4 94 = .ok (.getfield 53, 3) := by decide +kernel
theorem o_d11_97 : decode o_y4 97 = .ok (.iconst 1, 1) := by decide +kernel
theorem o_d11_98 : decode o_y4 98 = .ok (.iadd, 1) := by decide +kernel
theorem o_d11_99 : decode o_y4 99 = .ok (.putfield 53, 3) := by decide +kernel
theorem o_d11_102 : decode o_y4 102 = .ok (.aload_n 0, 1) := by decide +kernel
theorem o_d11_103 : decode o_y4 103 = .ok (.getfield 14, 3) := by decide +kernel
theorem o_d11_106 : decode o_y4 106 = .ok (.iload_n 3, 1) := by decide +kernel
theorem o_d11_107 : decode o_y4 107 = .ok (.iconst 1, 1) := by decide +kernel
theorem o_d11_108 : decode o_y4 108 = .ok (.iadd, 1) := by decide +kernel
theorem o_d11_109 : decode o_y4 109 = .ok (.invokevirtual 309, 3) := by decide +kernel
theorem o_d13_0 : decode o_y5 0 = .ok (.aload_n 0, 1) := by decide +kernel
theorem o_d13_1 : decode o_y5 1 = .ok (.getfield 15, 3) := by decide +kernel
theorem o_d13_4 : decode o_y5 4 = .ok (.ifnonnull 4, 3) := by decide +kernel
theorem o_d13_7 : decode o_y5 7 = .ok (.return_, 1) := by decide +kernel
theorem o_pn13 : plainFor (⟨o_n3, "inserted", "(I)V"⟩ : MethodName) = true := plainFor_of_name (by first | (simp [plainName, overriddenIn]; done) | decide +kernel)
set_option maxRecDepth 65536 in
set_option maxHeartbeats 40000000 in
theorem o_k13_3 (l : Launch) (Z : State) (a0 : Array Value) (hw : ∀ d ∈ tables_1, d.before a0 Z = true) (p0 : Addr) (p1 : Int32) (h0 : Heap) (H0 : Fld Z h0 p0 o_n3 "nodes" "[[J" .null) :
  o_C l (⟨o_n3, "inserted", "(I)V"⟩ : MethodName) o_y5 4 none (o_R 0 0 0 0) Z h0 #[(.ref p0), (.int p1)] (o_P none h0) := by
 refine o_body o_pn13 ?_
 intro p e s m below meth c s₁ hx hby hml hZ hown hnm hret hlk X0 e0
 refine o_cast (f' := (o_f9 m 0 p0 p1 [])) (by first | (simp [entryFrame, mkF, argsToLocals, Value.category, maxLocals]; done) | rfl) ?_
 refine o_q s₁ (o_f9 m 1 p0 p1 [(.ref p0)]) (fun _ k => XS.aloadN X0.here hx rfl (hb hby o_d13_0) rfl rfl k) ?_
 obtain ⟨T1, X1, e1, st1⟩ := getF X0 hx hZ hown (host := "") (Or.inl (o_m hw 103 rfl)) Via.refl e0 H0 (g := (o_f9 m 1 p0 p1 [(.ref p0)])) rfl rfl (hb hby o_d13_1)
 refine o_q T1 (o_f9 m 4 p0 p1 [.null]) st1 ?_
 refine o_q T1 (o_f9 m 7 p0 p1 []) (fun _ k => XS.ifnonnullNo X1.here hx rfl (hb hby o_d13_4) rfl k) ?_
 exact o_retV X1 hx hlk hret (hb hby o_d13_7) ⟨rfl, rfl, e1⟩ (by decide) (by decide)
theorem o_pd2 : parseMethodDescriptor "(I)V" = some ⟨[.int], none⟩ := by decide +kernel
theorem o_d11_112 : decode o_y4 112 = .ok (.iload_n 3, 1) := by decide +kernel
theorem o_d11_113 : decode o_y4 113 = .ok (.iconst 1, 1) := by decide +kernel
theorem o_d11_114 : decode o_y4 114 = .ok (.iadd, 1) := by decide +kernel
theorem o_d11_115 : decode o_y4 115 = .ok (.ireturn, 1) := by decide +kernel
theorem o_pn11 : plainFor (⟨o_n1, "split", "(J)I"⟩ : MethodName) = true := plainFor_of_name (by first | (simp [plainName, overriddenIn]; done) | decide +kernel)
set_option maxRecDepth 65536 in
set_option maxHeartbeats 40000000 in
theorem o_split (l : Launch) (Z : State) (a0 : Array Value) (hw : ∀ d ∈ tables_1, d.before a0 Z = true) (n0 : Nat) (pp rc ru wa tm fr : Addr) (tl la L : Int32) (ch gb : Int64) (xs : Nat → Int64) (fs : Nat → Int32) (rs : Nat → Int64) (time : Int64) (h0 : Heap) (hP : o_Pr Z n0 pp rc ru wa tm fr tl la L ch gb xs fs rs h0) (i1 : 1 ≤ tl.toInt) (i2 : tl.toInt ≤ L.toInt) (i3 : L.toInt ≤ 32) (i4 : tl.toInt + 1 ≤ L.toInt) :
  o_C l (⟨o_n1, "split", "(J)I"⟩ : MethodName) o_y4 4 (some .int) (o_R 3 0 0 49) Z h0 #[(.ref pp), (.long time)] (fun v h Ls => ∃ (r tl' la' : Int32) (xs' : Nat → Int64) (fs' : Nat → Int32), v = some (.int r) ∧ Fr n0 Ls ∧ o_Pr Z n0 pp rc ru wa tm fr tl' la' L ch gb xs' fs' rs h ∧ 0 ≤ r.toInt ∧ r.toInt < tl'.toInt ∧ tl.toInt ≤ tl'.toInt ∧ tl'.toInt ≤ tl.toInt + 1 ∧ (∀ i, i < tl'.toNatClampNeg → ∃ k, k < tl.toNatClampNeg ∧ fs' i = fs k) ∧ xs' 0 = xs 0 ∧ (xs (tl.toNatClampNeg - 1) = (9223372036854775807 : Int64) → ¬ time < xs 0 → xs' (tl'.toNatClampNeg - 1) = (9223372036854775807 : Int64) ∧ fs' (tl'.toNatClampNeg - 1) = fs (tl.toNatClampNeg - 1) ∧ ∀ i, i + 1 < tl'.toNatClampNeg → ∃ k, k + 1 < tl.toNatClampNeg ∧ fs' i = fs k)) := by
 refine o_body o_pn11 ?_
 intro p e s m below meth c s₁ hx hby hml hZ hown hnm hret hlk X0 e0
 refine o_cast (f' := (o_f7 m 0 pp time [])) (by first | (simp [entryFrame, mkF, argsToLocals, Value.category, maxLocals]; done) | rfl) ?_
 obtain ⟨Ep1, Er1, Ew1, F1_cpus, F1_times, F1_free, F1_head, F1_tail, F1_lastAt, F1_runs, F1_firstKnown, F1_watcher, F1_watchedAs, F1_changes, F1_merged, F1_gaveBack, F1_recent, Fn1, At1, Af1, Ar1, nt1, wl1, gp1, gt1, gf1, gr1, gu1⟩ := hP
 have ne2 : o_ne pp ru := Ep1.ne Er1 (by decide)
 have ne3 : o_ne pp tm := At1.neExa Ep1 (o_m hw 8 rfl)
 have ne4 : o_ne ru tm := At1.neExa Er1 (o_m hw 17 rfl)
 have ne5 : o_ne pp fr := Af1.neExa Ep1 (o_m hw 8 rfl)
 have ne6 : o_ne ru fr := Af1.neExa Er1 (o_m hw 17 rfl)
 have ne7 : o_ne pp rc := Ar1.neExa Ep1 (o_m hw 8 rfl)
 have ne8 : o_ne ru rc := Ar1.neExa Er1 (o_m hw 17 rfl)
 have ne9 : o_ne wa pp := Nat.ne_of_lt (Nat.lt_of_lt_of_le wl1 gp1)
 have ne10 : o_ne wa tm := Nat.ne_of_lt (Nat.lt_of_lt_of_le wl1 gt1)
 have ne11 : o_ne wa fr := Nat.ne_of_lt (Nat.lt_of_lt_of_le wl1 gf1)
 have ne12 : o_ne wa rc := Nat.ne_of_lt (Nat.lt_of_lt_of_le wl1 gr1)
 have ne13 : o_ne wa ru := Nat.ne_of_lt (Nat.lt_of_lt_of_le wl1 gu1)
 have ne14 : o_ne tm fr := At1.ne Af1 (by intro q; cases q)
 have ne15 : o_ne fr rc := Af1.ne Ar1 (by intro q; cases q)
 refine o_q s₁ (o_f7 m 1 pp time [(.ref pp)]) (fun _ k => XS.aloadN X0.here hx rfl (hb hby o_d11_0) rfl rfl k) ?_
 refine o_q s₁ (o_f7 m 2 pp time [(.long time), (.ref pp)]) (fun _ k => XS.lloadN X0.here hx rfl (hb hby o_d11_1) rfl k) ?_
 have q16 : 1 ≤ tl.toInt := by
  have r1 := rng32 tl
  omega
 have q17 : tl.toInt ≤ L.toInt := by
  have r1 := rng32 tl
  have r2 := rng32 L
  omega
 have q18 : L.toInt ≤ 32 := by
  have r1 := rng32 L
  omega
 have hP19 : o_Pr Z n0 pp rc ru wa tm fr tl la L ch gb xs fs rs h0 := ⟨Ep1, Er1, Ew1, F1_cpus, F1_times, F1_free, F1_head, F1_tail, F1_lastAt, F1_runs, F1_firstKnown, F1_watcher, F1_watchedAs, F1_changes, F1_merged, F1_gaveBack, F1_recent, Fn1, At1, Af1, Ar1, nt1, wl1, gp1, gt1, gf1, gr1, gu1⟩
 obtain ⟨v20, T20, L20, hQ20, X20, st20⟩ := o_callP X0 hx hZ e0 hown (o_m hw 88 rfl) (o_m hw 89 rfl) (o_m hw 8 rfl) (o_m hw 90 rfl) (by decide) (a := pp) Ep1 (o_m hw 91 rfl) (o_m hw 9 rfl) (o_seg l Z a0 hw n0 pp rc ru wa tm fr tl la L ch gb xs fs rs time h0 hP19 q16 q17 q18) (g := (o_f7 m 2 pp time [(.long time), (.ref pp)])) rfl (by rw [hml]; rfl) rfl (argsL := [(.long time)]) (rest := []) rfl (lenOf o_pd7 rfl) rfl (hb hby o_d11_2) (o_b rfl) (o_b rfl) (o_b rfl) (o_b rfl)
 obtain ⟨h20, e20⟩ : ∃ z, T20.heap = z := ⟨_, rfl⟩
 rw [e20] at hQ20
 obtain ⟨r20, la20, rfl, N20, hR20, sa20, sb20, sc20⟩ := hQ20
 have N_20 := Fr.app (Fr.nil _) N20
 obtain ⟨Ep21, Er21, Ew21, F21_cpus, F21_times, F21_free, F21_head, F21_tail, F21_lastAt, F21_runs, F21_firstKnown, F21_watcher, F21_watchedAs, F21_changes, F21_merged, F21_gaveBack, F21_recent, Fn21, At21, Af21, Ar21, nt21, wl21, gp21, gt21, gf21, gr21, gu21⟩ := hR20
 have ne22 : o_ne pp ru := Ep21.ne Er21 (by decide)
 have ne23 : o_ne pp tm := At21.neExa Ep21 (o_m hw 8 rfl)
 have ne24 : o_ne ru tm := At21.neExa Er21 (o_m hw 17 rfl)
 have ne25 : o_ne pp fr := Af21.neExa Ep21 (o_m hw 8 rfl)
 have ne26 : o_ne ru fr := Af21.neExa Er21 (o_m hw 17 rfl)
 have ne27 : o_ne pp rc := Ar21.neExa Ep21 (o_m hw 8 rfl)
 have ne28 : o_ne ru rc := Ar21.neExa Er21 (o_m hw 17 rfl)
 have ne29 : o_ne wa pp := Nat.ne_of_lt (Nat.lt_of_lt_of_le wl21 gp21)
 have ne30 : o_ne wa tm := Nat.ne_of_lt (Nat.lt_of_lt_of_le wl21 gt21)
 have ne31 : o_ne wa fr := Nat.ne_of_lt (Nat.lt_of_lt_of_le wl21 gf21)
 have ne32 : o_ne wa rc := Nat.ne_of_lt (Nat.lt_of_lt_of_le wl21 gr21)
 have ne33 : o_ne wa ru := Nat.ne_of_lt (Nat.lt_of_lt_of_le wl21 gu21)
 have ne34 : o_ne tm fr := At21.ne Af21 (by intro q; cases q)
 have ne35 : o_ne fr rc := Af21.ne Ar21 (by intro q; cases q)
 refine o_q T20 (o_f7 m 5 pp time [(.int r20)]) st20 ?_
 refine o_q T20 (o_f8 m 6 pp time r20 []) (fun _ k => XS.istoreN X20.here hx rfl (hb hby o_d11_5) rfl (l' := (o_t8 pp time r20)) rfl k) ?_
 refine o_q T20 (o_f8 m 7 pp time r20 [(.ref pp)]) (fun _ k => XS.aloadN X20.here hx rfl (hb hby o_d11_6) rfl rfl k) ?_
 obtain ⟨T36, X36, e36, st36⟩ := getF X20 hx hZ hown (host := "") (Or.inl (o_m hw 43 rfl)) Via.refl e20 F21_times (g := (o_f8 m 7 pp time r20 [(.ref pp)])) rfl rfl (hb hby o_d11_7)
 refine o_q T36 (o_f8 m 10 pp time r20 [(.ref tm)]) st36 ?_
 refine o_q T36 (o_f8 m 11 pp time r20 [(.int r20), (.ref tm)]) (fun _ k => XS.iloadN X36.here hx rfl (hb hby o_d11_10) rfl k) ?_
 have hin37 : ¬ (r20 < (0 : Int32)) ∧ r20 < L := by
  have r1 := rng32 r20
  have r2 := rng32 L
  have k3 : (0 : Int32).toInt = 0 := by decide
  rw [Int32.lt_iff_toInt_lt, Int32.lt_iff_toInt_lt]
  omega
 refine o_q T36 (o_f8 m 12 pp time r20 [(.long (xs r20.toNatClampNeg))]) (fun _ k => o_ldJ X36 hx hZ e36 At21 hin37 (g := (o_f8 m 11 pp time r20 [(.int r20), (.ref tm)])) rfl rfl (hb hby o_d11_11) _ k) ?_
 refine o_q T36 (o_f8 m 13 pp time r20 [(.long time), (.long (xs r20.toNatClampNeg))]) (fun _ k => XS.lloadN X36.here hx rfl (hb hby o_d11_12) rfl k) ?_
 refine o_q T36 (o_f8 m 14 pp time r20 [(.int (lcmpW (xs r20.toNatClampNeg) time))]) (fun _ k => XS.lcmp X36.here hx rfl (hb hby o_d11_13) rfl k) ?_
 by_cases c0 : (xs r20.toNatClampNeg) = time
 ·refine o_q T36 (o_f8 m 17 pp time r20 []) (fun _ k => XS.ifNo X36.here hx rfl (hb hby o_d11_14) rfl ((if0 _ _).trans (teq ((lw_eq _ _).mpr c0)).2) k) ?_
  refine o_q T36 (o_f8 m 18 pp time r20 [(.int r20)]) (fun _ k => XS.iloadN X36.here hx rfl (hb hby o_d11_17) rfl k) ?_
  have hP38 : o_Pr Z n0 pp rc ru wa tm fr tl la20 L ch gb xs fs rs h20 := ⟨Ep21, Er21, Ew21, F21_cpus, F21_times, F21_free, F21_head, F21_tail, F21_lastAt, F21_runs, F21_firstKnown, F21_watcher, F21_watchedAs, F21_changes, F21_merged, F21_gaveBack, F21_recent, Fn21, At21, Af21, Ar21, nt21, wl21, gp21, gt21, gf21, gr21, gu21⟩
  have q39 : tl.toInt ≤ tl.toInt := by
   omega
  have q40 : tl.toInt ≤ tl.toInt + 1 := by
   omega
  refine o_retI X36 hx hlk hret (hb hby o_d11_18) ?_ (o_b rfl) (o_b rfl)
  rw [e36]
  exact ⟨r20, tl, la20, xs, fs, rfl, N_20, hP38, sa20, sb20, q39, q40, (fun i hi => ⟨i, hi, rfl⟩), rfl, (fun q _ => ⟨q, rfl, fun i hi => ⟨i, hi, rfl⟩⟩)⟩
 ·refine o_q T36 (o_f8 m 19 pp time r20 []) (fun _ k => XS.ifYes X36.here hx rfl (pc0 := 14) (pc' := 19) rfl (hb hby o_d11_14) rfl ((if0 _ _).trans (feq (mt (lw_eq _ _).mp c0)).2) (by decide) (by decide) k) ?_
  refine o_q T36 (o_f8 m 20 pp time r20 [(.ref pp)]) (fun _ k => XS.aloadN X36.here hx rfl (hb hby o_d11_19) rfl rfl k) ?_
  obtain ⟨T41, X41, e41, st41⟩ := getF X36 hx hZ hown (host := "") (Or.inl (o_m hw 43 rfl)) Via.refl e36 F21_times (g := (o_f8 m 20 pp time r20 [(.ref pp)])) rfl rfl (hb hby o_d11_20)
  refine o_q T41 (o_f8 m 23 pp time r20 [(.ref tm)]) st41 ?_
  refine o_q T41 (o_f8 m 24 pp time r20 [(.int r20), (.ref tm)]) (fun _ k => XS.iloadN X41.here hx rfl (hb hby o_d11_23) rfl k) ?_
  refine o_q T41 (o_f8 m 25 pp time r20 [(.int (1 : Int32)), (.int r20), (.ref tm)]) (fun _ k => XS.iconst X41.here hx rfl (hb hby o_d11_24) k) ?_
  refine o_q T41 (o_f8 m 26 pp time r20 [(.int (r20 + (1 : Int32))), (.ref tm)]) (fun _ k => XS.iadd X41.here hx rfl (hb hby o_d11_25) rfl k) ?_
  refine o_q T41 (o_f8 m 27 pp time r20 [(.ref pp), (.int (r20 + (1 : Int32))), (.ref tm)]) (fun _ k => XS.aloadN X41.here hx rfl (hb hby o_d11_26) rfl rfl k) ?_
  obtain ⟨T42, X42, e42, st42⟩ := getF X41 hx hZ hown (host := "") (Or.inl (o_m hw 43 rfl)) Via.refl e41 F21_times (g := (o_f8 m 27 pp time r20 [(.ref pp), (.int (r20 + (1 : Int32))), (.ref tm)])) rfl rfl (hb hby o_d11_27)
  refine o_q T42 (o_f8 m 30 pp time r20 [(.ref tm), (.int (r20 + (1 : Int32))), (.ref tm)]) st42 ?_
  refine o_q T42 (o_f8 m 31 pp time r20 [(.int r20), (.ref tm), (.int (r20 + (1 : Int32))), (.ref tm)]) (fun _ k => XS.iloadN X42.here hx rfl (hb hby o_d11_30) rfl k) ?_
  refine o_q T42 (o_f8 m 32 pp time r20 [(.int (2 : Int32)), (.int r20), (.ref tm), (.int (r20 + (1 : Int32))), (.ref tm)]) (fun _ k => XS.iconst X42.here hx rfl (hb hby o_d11_31) k) ?_
  refine o_q T42 (o_f8 m 33 pp time r20 [(.int (r20 + (2 : Int32))), (.ref tm), (.int (r20 + (1 : Int32))), (.ref tm)]) (fun _ k => XS.iadd X42.here hx rfl (hb hby o_d11_32) rfl k) ?_
  refine o_q T42 (o_f8 m 34 pp time r20 [(.ref pp), (.int (r20 + (2 : Int32))), (.ref tm), (.int (r20 + (1 : Int32))), (.ref tm)]) (fun _ k => XS.aloadN X42.here hx rfl (hb hby o_d11_33) rfl rfl k) ?_
  obtain ⟨T43, X43, e43, st43⟩ := getF X42 hx hZ hown (host := "") (Or.inl (o_m hw 48 rfl)) Via.refl e42 F21_tail (g := (o_f8 m 34 pp time r20 [(.ref pp), (.int (r20 + (2 : Int32))), (.ref tm), (.int (r20 + (1 : Int32))), (.ref tm)])) rfl rfl (hb hby o_d11_34)
  refine o_q T43 (o_f8 m 37 pp time r20 [(.int tl), (.int (r20 + (2 : Int32))), (.ref tm), (.int (r20 + (1 : Int32))), (.ref tm)]) st43 ?_
  refine o_q T43 (o_f8 m 38 pp time r20 [(.int r20), (.int tl), (.int (r20 + (2 : Int32))), (.ref tm), (.int (r20 + (1 : Int32))), (.ref tm)]) (fun _ k => XS.iloadN X43.here hx rfl (hb hby o_d11_37) rfl k) ?_
  refine o_q T43 (o_f8 m 39 pp time r20 [(.int (tl - r20)), (.int (r20 + (2 : Int32))), (.ref tm), (.int (r20 + (1 : Int32))), (.ref tm)]) (fun _ k => XS.isub X43.here hx rfl (hb hby o_d11_38) rfl k) ?_
  refine o_q T43 (o_f8 m 40 pp time r20 [(.int (1 : Int32)), (.int (tl - r20)), (.int (r20 + (2 : Int32))), (.ref tm), (.int (r20 + (1 : Int32))), (.ref tm)]) (fun _ k => XS.iconst X43.here hx rfl (hb hby o_d11_39) k) ?_
  refine o_q T43 (o_f8 m 41 pp time r20 [(.int ((tl - r20) - (1 : Int32))), (.int (r20 + (2 : Int32))), (.ref tm), (.int (r20 + (1 : Int32))), (.ref tm)]) (fun _ k => XS.isub X43.here hx rfl (hb hby o_d11_40) rfl k) ?_
  have u1_44 : 0 ≤ ((r20 + (1 : Int32))).toInt := by
   have r1 := rng32 r20
   have k2 : (1 : Int32).toInt = 1 := by decide
   have e3 := c_iadd (r20) ((1 : Int32))
   have r3 := rng32 ((r20 + (1 : Int32)))
   rw [show (1 : Int32).toInt = 1 from by decide] at e3
   omega
  have u2_44 : 0 ≤ ((r20 + (2 : Int32))).toInt := by
   have r1 := rng32 r20
   have k2 : (2 : Int32).toInt = 2 := by decide
   have e3 := c_iadd (r20) ((2 : Int32))
   have r3 := rng32 ((r20 + (2 : Int32)))
   rw [show (2 : Int32).toInt = 2 from by decide] at e3
   omega
  have u3_44 : 0 ≤ (((tl - r20) - (1 : Int32))).toInt := by
   have r1 := rng32 tl
   have r2 := rng32 r20
   have e3 := c_isub (tl) (r20)
   have r3 := rng32 ((tl - r20))
   have k4 : (1 : Int32).toInt = 1 := by decide
   have e5 := c_isub ((tl - r20)) ((1 : Int32))
   have r5 := rng32 (((tl - r20) - (1 : Int32)))
   rw [show (1 : Int32).toInt = 1 from by decide] at e5
   omega
  have u4_44 : ((r20 + (1 : Int32))).toInt + (((tl - r20) - (1 : Int32))).toInt ≤ L.toInt := by
   have r1 := rng32 r20
   have k2 : (1 : Int32).toInt = 1 := by decide
   have e3 := c_iadd (r20) ((1 : Int32))
   have r3 := rng32 ((r20 + (1 : Int32)))
   rw [show (1 : Int32).toInt = 1 from by decide] at e3
   have r4 := rng32 tl
   have e5 := c_isub (tl) (r20)
   have r5 := rng32 ((tl - r20))
   have e6 := c_isub ((tl - r20)) ((1 : Int32))
   have r6 := rng32 (((tl - r20) - (1 : Int32)))
   rw [show (1 : Int32).toInt = 1 from by decide] at e6
   have r7 := rng32 L
   omega
  have u5_44 : ((r20 + (2 : Int32))).toInt + (((tl - r20) - (1 : Int32))).toInt ≤ L.toInt := by
   have r1 := rng32 r20
   have k2 : (2 : Int32).toInt = 2 := by decide
   have e3 := c_iadd (r20) ((2 : Int32))
   have r3 := rng32 ((r20 + (2 : Int32)))
   rw [show (2 : Int32).toInt = 2 from by decide] at e3
   have r4 := rng32 tl
   have e5 := c_isub (tl) (r20)
   have r5 := rng32 ((tl - r20))
   have k6 : (1 : Int32).toInt = 1 := by decide
   have e7 := c_isub ((tl - r20)) ((1 : Int32))
   have r7 := rng32 (((tl - r20) - (1 : Int32)))
   rw [show (1 : Int32).toInt = 1 from by decide] at e7
   have r8 := rng32 L
   omega
  obtain ⟨T44, h44, L44, X44, e44, N_44, K44, A44, st44⟩ := o_cp X43 hx hZ hown (o_m hw 94 rfl) (o_m hw 97 rfl) (o_m hw 95 rfl) (o_m hw 96 rfl) e43 At21 At21 rfl u1_44 u2_44 u3_44 u4_44 u5_44 N_20 gt21 (g := (o_f8 m 41 pp time r20 [(.int ((tl - r20) - (1 : Int32))), (.int (r20 + (2 : Int32))), (.ref tm), (.int (r20 + (1 : Int32))), (.ref tm)])) rfl (by rw [hml]; rfl) rfl rfl (hb hby o_d11_41) (o_b rfl) (o_b rfl)
  obtain ⟨f44, d_f44⟩ : ∃ z : Nat → Int64, z = (fun i => if ((r20 + (2 : Int32))).toNatClampNeg ≤ i ∧ i < ((r20 + (2 : Int32))).toNatClampNeg + (((tl - r20) - (1 : Int32))).toNatClampNeg then xs (((r20 + (1 : Int32))).toNatClampNeg + (i - ((r20 + (2 : Int32))).toNatClampNeg)) else xs i) := ⟨_, rfl⟩
  replace A44 : o_LA Z h44 tm L f44 := A44.congr fun i _ => by rw [d_f44]; exact (apply_ite Value.long _ _ _).symm
  have Y45 := Ep21.keep K44
  have Y46 := Er21.keep K44
  have Y47 := Ew21.keep K44
  have Y48 := F21_cpus.keep K44 (ninS ne23 nin0)
  have Y49 := F21_times.keep K44 (ninS ne23 nin0)
  have Y50 := F21_free.keep K44 (ninS ne23 nin0)
  have Y51 := F21_head.keep K44 (ninS ne23 nin0)
  have Y52 := F21_tail.keep K44 (ninS ne23 nin0)
  have Y53 := F21_lastAt.keep K44 (ninS ne23 nin0)
  have Y54 := F21_runs.keep K44 (ninS ne23 nin0)
  have Y55 := F21_firstKnown.keep K44 (ninS ne23 nin0)
  have Y56 := F21_watcher.keep K44 (ninS ne23 nin0)
  have Y57 := F21_watchedAs.keep K44 (ninS ne23 nin0)
  have Y58 := F21_changes.keep K44 (ninS ne23 nin0)
  have Y59 := F21_merged.keep K44 (ninS ne23 nin0)
  have Y60 := F21_gaveBack.keep K44 (ninS ne23 nin0)
  have Y61 := F21_recent.keep K44 (ninS ne23 nin0)
  have Y62 := Fn21.keep K44 (ninS ne24 nin0)
  have Y64 := Af21.keep K44 (ninS (Ne.symm ne34) nin0)
  have Y65 := Ar21.keep K44 (ninS (Ne.symm nt21) nin0)
  refine o_q T44 (o_f8 m 44 pp time r20 []) st44 ?_
  refine o_q T44 (o_f8 m 45 pp time r20 [(.ref pp)]) (fun _ k => XS.aloadN X44.here hx rfl (hb hby o_d11_44) rfl rfl k) ?_
  obtain ⟨T66, X66, e66, st66⟩ := getF X44 hx hZ hown (host := "") (Or.inl (o_m hw 46 rfl)) Via.refl e44 Y50 (g := (o_f8 m 45 pp time r20 [(.ref pp)])) rfl rfl (hb hby o_d11_45)
  refine o_q T66 (o_f8 m 48 pp time r20 [(.ref fr)]) st66 ?_
  refine o_q T66 (o_f8 m 49 pp time r20 [(.int r20), (.ref fr)]) (fun _ k => XS.iloadN X66.here hx rfl (hb hby o_d11_48) rfl k) ?_
  refine o_q T66 (o_f8 m 50 pp time r20 [(.int (1 : Int32)), (.int r20), (.ref fr)]) (fun _ k => XS.iconst X66.here hx rfl (hb hby o_d11_49) k) ?_
  refine o_q T66 (o_f8 m 51 pp time r20 [(.int (r20 + (1 : Int32))), (.ref fr)]) (fun _ k => XS.iadd X66.here hx rfl (hb hby o_d11_50) rfl k) ?_
  refine o_q T66 (o_f8 m 52 pp time r20 [(.ref pp), (.int (r20 + (1 : Int32))), (.ref fr)]) (fun _ k => XS.aloadN X66.here hx rfl (hb hby o_d11_51) rfl rfl k) ?_
  obtain ⟨T67, X67, e67, st67⟩ := getF X66 hx hZ hown (host := "") (Or.inl (o_m hw 46 rfl)) Via.refl e66 Y50 (g := (o_f8 m 52 pp time r20 [(.ref pp), (.int (r20 + (1 : Int32))), (.ref fr)])) rfl rfl (hb hby o_d11_52)
  refine o_q T67 (o_f8 m 55 pp time r20 [(.ref fr), (.int (r20 + (1 : Int32))), (.ref fr)]) st67 ?_
  refine o_q T67 (o_f8 m 56 pp time r20 [(.int r20), (.ref fr), (.int (r20 + (1 : Int32))), (.ref fr)]) (fun _ k => XS.iloadN X67.here hx rfl (hb hby o_d11_55) rfl k) ?_
  refine o_q T67 (o_f8 m 57 pp time r20 [(.int (2 : Int32)), (.int r20), (.ref fr), (.int (r20 + (1 : Int32))), (.ref fr)]) (fun _ k => XS.iconst X67.here hx rfl (hb hby o_d11_56) k) ?_
  refine o_q T67 (o_f8 m 58 pp time r20 [(.int (r20 + (2 : Int32))), (.ref fr), (.int (r20 + (1 : Int32))), (.ref fr)]) (fun _ k => XS.iadd X67.here hx rfl (hb hby o_d11_57) rfl k) ?_
  refine o_q T67 (o_f8 m 59 pp time r20 [(.ref pp), (.int (r20 + (2 : Int32))), (.ref fr), (.int (r20 + (1 : Int32))), (.ref fr)]) (fun _ k => XS.aloadN X67.here hx rfl (hb hby o_d11_58) rfl rfl k) ?_
  obtain ⟨T68, X68, e68, st68⟩ := getF X67 hx hZ hown (host := "") (Or.inl (o_m hw 48 rfl)) Via.refl e67 Y52 (g := (o_f8 m 59 pp time r20 [(.ref pp), (.int (r20 + (2 : Int32))), (.ref fr), (.int (r20 + (1 : Int32))), (.ref fr)])) rfl rfl (hb hby o_d11_59)
  refine o_q T68 (o_f8 m 62 pp time r20 [(.int tl), (.int (r20 + (2 : Int32))), (.ref fr), (.int (r20 + (1 : Int32))), (.ref fr)]) st68 ?_
  refine o_q T68 (o_f8 m 63 pp time r20 [(.int r20), (.int tl), (.int (r20 + (2 : Int32))), (.ref fr), (.int (r20 + (1 : Int32))), (.ref fr)]) (fun _ k => XS.iloadN X68.here hx rfl (hb hby o_d11_62) rfl k) ?_
  refine o_q T68 (o_f8 m 64 pp time r20 [(.int (tl - r20)), (.int (r20 + (2 : Int32))), (.ref fr), (.int (r20 + (1 : Int32))), (.ref fr)]) (fun _ k => XS.isub X68.here hx rfl (hb hby o_d11_63) rfl k) ?_
  refine o_q T68 (o_f8 m 65 pp time r20 [(.int (1 : Int32)), (.int (tl - r20)), (.int (r20 + (2 : Int32))), (.ref fr), (.int (r20 + (1 : Int32))), (.ref fr)]) (fun _ k => XS.iconst X68.here hx rfl (hb hby o_d11_64) k) ?_
  refine o_q T68 (o_f8 m 66 pp time r20 [(.int ((tl - r20) - (1 : Int32))), (.int (r20 + (2 : Int32))), (.ref fr), (.int (r20 + (1 : Int32))), (.ref fr)]) (fun _ k => XS.isub X68.here hx rfl (hb hby o_d11_65) rfl k) ?_
  have u1_69 : 0 ≤ ((r20 + (1 : Int32))).toInt := by
   have r1 := rng32 r20
   have k2 : (1 : Int32).toInt = 1 := by decide
   have e3 := c_iadd (r20) ((1 : Int32))
   have r3 := rng32 ((r20 + (1 : Int32)))
   rw [show (1 : Int32).toInt = 1 from by decide] at e3
   omega
  have u2_69 : 0 ≤ ((r20 + (2 : Int32))).toInt := by
   have r1 := rng32 r20
   have k2 : (2 : Int32).toInt = 2 := by decide
   have e3 := c_iadd (r20) ((2 : Int32))
   have r3 := rng32 ((r20 + (2 : Int32)))
   rw [show (2 : Int32).toInt = 2 from by decide] at e3
   omega
  have u3_69 : 0 ≤ (((tl - r20) - (1 : Int32))).toInt := by
   have r1 := rng32 tl
   have r2 := rng32 r20
   have e3 := c_isub (tl) (r20)
   have r3 := rng32 ((tl - r20))
   have k4 : (1 : Int32).toInt = 1 := by decide
   have e5 := c_isub ((tl - r20)) ((1 : Int32))
   have r5 := rng32 (((tl - r20) - (1 : Int32)))
   rw [show (1 : Int32).toInt = 1 from by decide] at e5
   omega
  have u4_69 : ((r20 + (1 : Int32))).toInt + (((tl - r20) - (1 : Int32))).toInt ≤ L.toInt := by
   have r1 := rng32 r20
   have k2 : (1 : Int32).toInt = 1 := by decide
   have e3 := c_iadd (r20) ((1 : Int32))
   have r3 := rng32 ((r20 + (1 : Int32)))
   rw [show (1 : Int32).toInt = 1 from by decide] at e3
   have r4 := rng32 tl
   have e5 := c_isub (tl) (r20)
   have r5 := rng32 ((tl - r20))
   have e6 := c_isub ((tl - r20)) ((1 : Int32))
   have r6 := rng32 (((tl - r20) - (1 : Int32)))
   rw [show (1 : Int32).toInt = 1 from by decide] at e6
   have r7 := rng32 L
   omega
  have u5_69 : ((r20 + (2 : Int32))).toInt + (((tl - r20) - (1 : Int32))).toInt ≤ L.toInt := by
   have r1 := rng32 r20
   have k2 : (2 : Int32).toInt = 2 := by decide
   have e3 := c_iadd (r20) ((2 : Int32))
   have r3 := rng32 ((r20 + (2 : Int32)))
   rw [show (2 : Int32).toInt = 2 from by decide] at e3
   have r4 := rng32 tl
   have e5 := c_isub (tl) (r20)
   have r5 := rng32 ((tl - r20))
   have k6 : (1 : Int32).toInt = 1 := by decide
   have e7 := c_isub ((tl - r20)) ((1 : Int32))
   have r7 := rng32 (((tl - r20) - (1 : Int32)))
   rw [show (1 : Int32).toInt = 1 from by decide] at e7
   have r8 := rng32 L
   omega
  obtain ⟨T69, h69, L69, X69, e69, N_69, K69, A69, st69⟩ := o_cp X68 hx hZ hown (o_m hw 94 rfl) (o_m hw 97 rfl) (o_m hw 95 rfl) (o_m hw 96 rfl) e68 Y64 Y64 rfl u1_69 u2_69 u3_69 u4_69 u5_69 N_44 gf21 (g := (o_f8 m 66 pp time r20 [(.int ((tl - r20) - (1 : Int32))), (.int (r20 + (2 : Int32))), (.ref fr), (.int (r20 + (1 : Int32))), (.ref fr)])) rfl (by rw [hml]; rfl) rfl rfl (hb hby o_d11_66) (o_b rfl) (o_b rfl)
  obtain ⟨f69, d_f69⟩ : ∃ z : Nat → Int32, z = (fun i => if ((r20 + (2 : Int32))).toNatClampNeg ≤ i ∧ i < ((r20 + (2 : Int32))).toNatClampNeg + (((tl - r20) - (1 : Int32))).toNatClampNeg then fs (((r20 + (1 : Int32))).toNatClampNeg + (i - ((r20 + (2 : Int32))).toNatClampNeg)) else fs i) := ⟨_, rfl⟩
  replace A69 : o_IA Z h69 fr L f69 := A69.congr fun i _ => by rw [d_f69]; exact (apply_ite Value.int _ _ _).symm
  have Y70 := Y45.keep K69
  have Y71 := Y46.keep K69
  have Y72 := Y47.keep K69
  have Y73 := Y48.keep K69 (ninS ne25 nin0)
  have Y74 := Y49.keep K69 (ninS ne25 nin0)
  have Y75 := Y50.keep K69 (ninS ne25 nin0)
  have Y76 := Y51.keep K69 (ninS ne25 nin0)
  have Y77 := Y52.keep K69 (ninS ne25 nin0)
  have Y78 := Y53.keep K69 (ninS ne25 nin0)
  have Y79 := Y54.keep K69 (ninS ne25 nin0)
  have Y80 := Y55.keep K69 (ninS ne25 nin0)
  have Y81 := Y56.keep K69 (ninS ne25 nin0)
  have Y82 := Y57.keep K69 (ninS ne25 nin0)
  have Y83 := Y58.keep K69 (ninS ne25 nin0)
  have Y84 := Y59.keep K69 (ninS ne25 nin0)
  have Y85 := Y60.keep K69 (ninS ne25 nin0)
  have Y86 := Y61.keep K69 (ninS ne25 nin0)
  have Y87 := Y62.keep K69 (ninS ne26 nin0)
  have Y88 := A44.keep K69 (ninS ne34 nin0)
  have Y90 := Y65.keep K69 (ninS (Ne.symm ne35) nin0)
  refine o_q T69 (o_f8 m 69 pp time r20 []) st69 ?_
  refine o_q T69 (o_f8 m 70 pp time r20 [(.ref pp)]) (fun _ k => XS.aloadN X69.here hx rfl (hb hby o_d11_69) rfl rfl k) ?_
  obtain ⟨T91, X91, e91, st91⟩ := getF X69 hx hZ hown (host := "") (Or.inl (o_m hw 43 rfl)) Via.refl e69 Y74 (g := (o_f8 m 70 pp time r20 [(.ref pp)])) rfl rfl (hb hby o_d11_70)
  refine o_q T91 (o_f8 m 73 pp time r20 [(.ref tm)]) st91 ?_
  refine o_q T91 (o_f8 m 74 pp time r20 [(.int r20), (.ref tm)]) (fun _ k => XS.iloadN X91.here hx rfl (hb hby o_d11_73) rfl k) ?_
  refine o_q T91 (o_f8 m 75 pp time r20 [(.int (1 : Int32)), (.int r20), (.ref tm)]) (fun _ k => XS.iconst X91.here hx rfl (hb hby o_d11_74) k) ?_
  refine o_q T91 (o_f8 m 76 pp time r20 [(.int (r20 + (1 : Int32))), (.ref tm)]) (fun _ k => XS.iadd X91.here hx rfl (hb hby o_d11_75) rfl k) ?_
  refine o_q T91 (o_f8 m 77 pp time r20 [(.long time), (.int (r20 + (1 : Int32))), (.ref tm)]) (fun _ k => XS.lloadN X91.here hx rfl (hb hby o_d11_76) rfl k) ?_
  have hin92 : ¬ ((r20 + (1 : Int32)) < (0 : Int32)) ∧ (r20 + (1 : Int32)) < L := by
   have r1 := rng32 r20
   have k2 : (1 : Int32).toInt = 1 := by decide
   have e3 := c_iadd (r20) ((1 : Int32))
   have r3 := rng32 ((r20 + (1 : Int32)))
   rw [show (1 : Int32).toInt = 1 from by decide] at e3
   have r4 := rng32 L
   have k5 : (0 : Int32).toInt = 0 := by decide
   rw [Int32.lt_iff_toInt_lt, Int32.lt_iff_toInt_lt]
   omega
  obtain ⟨T93, h93, X93, e93, W93, A93, st93⟩ := o_stJ X91 hx hZ e91 Y88 hin92 (g := (o_f8 m 77 pp time r20 [(.long time), (.int (r20 + (1 : Int32))), (.ref tm)])) rfl rfl (hb hby o_d11_77)
  obtain ⟨f93, d_f93⟩ : ∃ z : Nat → Int64, z = (fun i => if i = ((r20 + (1 : Int32))).toNatClampNeg then time else f44 i) := ⟨_, rfl⟩
  rw [← d_f93] at A93
  have N_93 := Fr.snoc X93 N_69 gt21
  have Y94 := Y70.wr W93
  have Y95 := Y71.wr W93
  have Y96 := Y72.wr W93
  have Y97 := Y73.other W93 (Or.inl ne23)
  have Y98 := Y74.other W93 (Or.inl ne23)
  have Y99 := Y75.other W93 (Or.inl ne23)
  have Y100 := Y76.other W93 (Or.inl ne23)
  have Y101 := Y77.other W93 (Or.inl ne23)
  have Y102 := Y78.other W93 (Or.inl ne23)
  have Y103 := Y79.other W93 (Or.inl ne23)
  have Y104 := Y80.other W93 (Or.inl ne23)
  have Y105 := Y81.other W93 (Or.inl ne23)
  have Y106 := Y82.other W93 (Or.inl ne23)
  have Y107 := Y83.other W93 (Or.inl ne23)
  have Y108 := Y84.other W93 (Or.inl ne23)
  have Y109 := Y85.other W93 (Or.inl ne23)
  have Y110 := Y86.other W93 (Or.inl ne23)
  have Y111 := Y87.other W93 (Or.inl ne24)
  have Y113 := A69.other W93 (Ne.symm ne34)
  have Y114 := Y90.other W93 (Ne.symm nt21)
  refine o_q T93 (o_f8 m 78 pp time r20 []) st93 ?_
  refine o_q T93 (o_f8 m 79 pp time r20 [(.ref pp)]) (fun _ k => XS.aloadN X93.here hx rfl (hb hby o_d11_78) rfl rfl k) ?_
  obtain ⟨T115, X115, e115, st115⟩ := getF X93 hx hZ hown (host := "") (Or.inl (o_m hw 46 rfl)) Via.refl e93 Y99 (g := (o_f8 m 79 pp time r20 [(.ref pp)])) rfl rfl (hb hby o_d11_79)
  refine o_q T115 (o_f8 m 82 pp time r20 [(.ref fr)]) st115 ?_
  refine o_q T115 (o_f8 m 83 pp time r20 [(.int r20), (.ref fr)]) (fun _ k => XS.iloadN X115.here hx rfl (hb hby o_d11_82) rfl k) ?_
  refine o_q T115 (o_f8 m 84 pp time r20 [(.int (1 : Int32)), (.int r20), (.ref fr)]) (fun _ k => XS.iconst X115.here hx rfl (hb hby o_d11_83) k) ?_
  refine o_q T115 (o_f8 m 85 pp time r20 [(.int (r20 + (1 : Int32))), (.ref fr)]) (fun _ k => XS.iadd X115.here hx rfl (hb hby o_d11_84) rfl k) ?_
  refine o_q T115 (o_f8 m 86 pp time r20 [(.ref pp), (.int (r20 + (1 : Int32))), (.ref fr)]) (fun _ k => XS.aloadN X115.here hx rfl (hb hby o_d11_85) rfl rfl k) ?_
  obtain ⟨T116, X116, e116, st116⟩ := getF X115 hx hZ hown (host := "") (Or.inl (o_m hw 46 rfl)) Via.refl e115 Y99 (g := (o_f8 m 86 pp time r20 [(.ref pp), (.int (r20 + (1 : Int32))), (.ref fr)])) rfl rfl (hb hby o_d11_86)
  refine o_q T116 (o_f8 m 89 pp time r20 [(.ref fr), (.int (r20 + (1 : Int32))), (.ref fr)]) st116 ?_
  refine o_q T116 (o_f8 m 90 pp time r20 [(.int r20), (.ref fr), (.int (r20 + (1 : Int32))), (.ref fr)]) (fun _ k => XS.iloadN X116.here hx rfl (hb hby o_d11_89) rfl k) ?_
  have hin117 : ¬ (r20 < (0 : Int32)) ∧ r20 < L := by
   have r1 := rng32 r20
   have r2 := rng32 L
   have k3 : (0 : Int32).toInt = 0 := by decide
   rw [Int32.lt_iff_toInt_lt, Int32.lt_iff_toInt_lt]
   omega
  refine o_q T116 (o_f8 m 91 pp time r20 [(.int (f69 r20.toNatClampNeg)), (.int (r20 + (1 : Int32))), (.ref fr)]) (fun _ k => o_ldI X116 hx hZ e116 Y113 hin117 (g := (o_f8 m 90 pp time r20 [(.int r20), (.ref fr), (.int (r20 + (1 : Int32))), (.ref fr)])) rfl rfl (hb hby o_d11_90) _ k) ?_
  have hin118 : ¬ ((r20 + (1 : Int32)) < (0 : Int32)) ∧ (r20 + (1 : Int32)) < L := by
   have r1 := rng32 r20
   have k2 : (1 : Int32).toInt = 1 := by decide
   have e3 := c_iadd (r20) ((1 : Int32))
   have r3 := rng32 ((r20 + (1 : Int32)))
   rw [show (1 : Int32).toInt = 1 from by decide] at e3
   have r4 := rng32 L
   have k5 : (0 : Int32).toInt = 0 := by decide
   rw [Int32.lt_iff_toInt_lt, Int32.lt_iff_toInt_lt]
   omega
  obtain ⟨T119, h119, X119, e119, W119, A119, st119⟩ := o_stI X116 hx hZ e116 Y113 hin118 (g := (o_f8 m 91 pp time r20 [(.int (f69 r20.toNatClampNeg)), (.int (r20 + (1 : Int32))), (.ref fr)])) rfl rfl (hb hby o_d11_91)
  obtain ⟨f119, d_f119⟩ : ∃ z : Nat → Int32, z = (fun i => if i = ((r20 + (1 : Int32))).toNatClampNeg then (f69 r20.toNatClampNeg) else f69 i) := ⟨_, rfl⟩
  rw [← d_f119] at A119
  have N_119 := Fr.snoc X119 N_93 gf21
  have Y120 := Y94.wr W119
  have Y121 := Y95.wr W119
  have Y122 := Y96.wr W119
  have Y123 := Y97.other W119 (Or.inl ne25)
  have Y124 := Y98.other W119 (Or.inl ne25)
  have Y125 := Y99.other W119 (Or.inl ne25)
  have Y126 := Y100.other W119 (Or.inl ne25)
  have Y127 := Y101.other W119 (Or.inl ne25)
  have Y128 := Y102.other W119 (Or.inl ne25)
  have Y129 := Y103.other W119 (Or.inl ne25)
  have Y130 := Y104.other W119 (Or.inl ne25)
  have Y131 := Y105.other W119 (Or.inl ne25)
  have Y132 := Y106.other W119 (Or.inl ne25)
  have Y133 := Y107.other W119 (Or.inl ne25)
  have Y134 := Y108.other W119 (Or.inl ne25)
  have Y135 := Y109.other W119 (Or.inl ne25)
  have Y136 := Y110.other W119 (Or.inl ne25)
  have Y137 := Y111.other W119 (Or.inl ne26)
  have Y138 := A93.other W119 ne34
  have Y140 := Y114.other W119 (Ne.symm ne35)
  refine o_q T119 (o_f8 m 92 pp time r20 []) st119 ?_
  refine o_q T119 (o_f8 m 93 pp time r20 [(.ref pp)]) (fun _ k => XS.aloadN X119.here hx rfl (hb hby o_d11_92) rfl rfl k) ?_
  refine o_q T119 (o_f8 m 94 pp time r20 [(.ref pp), (.ref pp)]) (fun _ k => XS.dup X119.here hx rfl (hb hby o_d11_93) rfl rfl k) ?_
  obtain ⟨T141, X141, e141, st141⟩ := getF X119 hx hZ hown (host := "") (Or.inl (o_m hw 48 rfl)) Via.refl e119 Y127 (g := (o_f8 m 94 pp time r20 [(.ref pp), (.ref pp)])) rfl rfl (hb hby o_d11_94)
  refine o_q T141 (o_f8 m 97 pp time r20 [(.int tl), (.ref pp)]) st141 ?_
  refine o_q T141 (o_f8 m 98 pp time r20 [(.int (1 : Int32)), (.int tl), (.ref pp)]) (fun _ k => XS.iconst X141.here hx rfl (hb hby o_d11_97) k) ?_
  refine o_q T141 (o_f8 m 99 pp time r20 [(.int (tl + (1 : Int32))), (.ref pp)]) (fun _ k => XS.iadd X141.here hx rfl (hb hby o_d11_98) rfl k) ?_
  obtain ⟨T142, h142, X142, e142, W142, st142⟩ := putF X141 hx hZ hown (host := "") (Or.inl (o_m hw 48 rfl)) Via.refl e141 Y127 Y120 (Or.inl (o_m hw 49 rfl)) (o_m hw 8 rfl) (ty := .int) (by decide) rfl rfl (g := (o_f8 m 99 pp time r20 [(.int (tl + (1 : Int32))), (.ref pp)])) rfl rfl (hb hby o_d11_99)
  have Fw142 := Y127.same W142
  have N_142 := Fr.snoc X142 N_119 gp21
  have Y143 := Y120.wr W142
  have Y144 := Y121.wr W142
  have Y145 := Y122.wr W142
  have Y146 := Y123.other W142 (o_sn (Or.inr (o_m hw 41 rfl)) (Or.inl (o_m hw 49 rfl)))
  have Y147 := Y124.other W142 (o_sn (Or.inl (o_m hw 44 rfl)) (Or.inl (o_m hw 49 rfl)))
  have Y148 := Y125.other W142 (o_sn (Or.inl (o_m hw 47 rfl)) (Or.inl (o_m hw 49 rfl)))
  have Y149 := Y126.other W142 (o_sn (Or.inl (o_m hw 93 rfl)) (Or.inl (o_m hw 49 rfl)))
  have Y151 := Y128.other W142 (o_sn (Or.inl (o_m hw 106 rfl)) (Or.inl (o_m hw 49 rfl)))
  have Y152 := Y129.other W142 (o_sn (Or.inr (o_m hw 26 rfl)) (Or.inl (o_m hw 49 rfl)))
  have Y153 := Y130.other W142 (o_sn (Or.inl (o_m hw 64 rfl)) (Or.inl (o_m hw 49 rfl)))
  have Y154 := Y131.other W142 (o_sn (Or.inl (o_m hw 39 rfl)) (Or.inl (o_m hw 49 rfl)))
  have Y155 := Y132.other W142 (o_sn (Or.inl (o_m hw 66 rfl)) (Or.inl (o_m hw 49 rfl)))
  have Y156 := Y133.other W142 (o_sn (Or.inl (o_m hw 78 rfl)) (Or.inl (o_m hw 49 rfl)))
  have Y157 := Y134.other W142 (o_sn (Or.inl (o_m hw 132 rfl)) (Or.inl (o_m hw 49 rfl)))
  have Y158 := Y135.other W142 (o_sn (Or.inl (o_m hw 166 rfl)) (Or.inl (o_m hw 49 rfl)))
  have Y159 := Y136.other W142 (o_sn (Or.inr (o_m hw 35 rfl)) (Or.inl (o_m hw 49 rfl)))
  have Y160 := Y137.other W142 (Or.inl (Ne.symm ne22))
  have Y161 := Y138.other W142 (Ne.symm ne23)
  have Y162 := A119.other W142 (Ne.symm ne25)
  have Y163 := Y140.other W142 (Ne.symm ne27)
  refine o_q T142 (o_f8 m 102 pp time r20 []) st142 ?_
  refine o_q T142 (o_f8 m 103 pp time r20 [(.ref pp)]) (fun _ k => XS.aloadN X142.here hx rfl (hb hby o_d11_102) rfl rfl k) ?_
  obtain ⟨T164, X164, e164, st164⟩ := getF X142 hx hZ hown (host := "") (Or.inl (o_m hw 25 rfl)) Via.refl e142 Y152 (g := (o_f8 m 103 pp time r20 [(.ref pp)])) rfl rfl (hb hby o_d11_103)
  refine o_q T164 (o_f8 m 106 pp time r20 [(.ref ru)]) st164 ?_
  refine o_q T164 (o_f8 m 107 pp time r20 [(.int r20), (.ref ru)]) (fun _ k => XS.iloadN X164.here hx rfl (hb hby o_d11_106) rfl k) ?_
  refine o_q T164 (o_f8 m 108 pp time r20 [(.int (1 : Int32)), (.int r20), (.ref ru)]) (fun _ k => XS.iconst X164.here hx rfl (hb hby o_d11_107) k) ?_
  refine o_q T164 (o_f8 m 109 pp time r20 [(.int (r20 + (1 : Int32))), (.ref ru)]) (fun _ k => XS.iadd X164.here hx rfl (hb hby o_d11_108) rfl k) ?_
  obtain ⟨v165, T165, L165, hQ165, X165, st165⟩ := o_callV X164 hx hZ e164 hown (o_m hw 98 rfl) (o_m hw 99 rfl) (o_m hw 101 rfl) (o_m hw 100 rfl) (by decide) (b := ru) Y144 (o_m hw 102 rfl) (o_m hw 18 rfl) (o_k13_3 l Z a0 hw ru (r20 + (1 : Int32)) h142 Y160) (g := (o_f8 m 109 pp time r20 [(.int (r20 + (1 : Int32))), (.ref ru)])) rfl (by rw [hml]; rfl) rfl (argsL := [(.int (r20 + (1 : Int32)))]) (rest := []) rfl (lenOf o_pd2 rfl) rfl (hb hby o_d11_109) (o_b rfl) (o_b rfl) (o_b rfl) (o_b rfl)
  obtain ⟨rfl, rfl, e165⟩ := hQ165
  rw [List.append_nil] at X165
  refine o_q T165 (o_f8 m 112 pp time r20 []) st165 ?_
  refine o_q T165 (o_f8 m 113 pp time r20 [(.int r20)]) (fun _ k => XS.iloadN X165.here hx rfl (hb hby o_d11_112) rfl k) ?_
  refine o_q T165 (o_f8 m 114 pp time r20 [(.int (1 : Int32)), (.int r20)]) (fun _ k => XS.iconst X165.here hx rfl (hb hby o_d11_113) k) ?_
  refine o_q T165 (o_f8 m 115 pp time r20 [(.int (r20 + (1 : Int32)))]) (fun _ k => XS.iadd X165.here hx rfl (hb hby o_d11_114) rfl k) ?_
  have hP166 : o_Pr Z n0 pp rc ru wa tm fr (tl + (1 : Int32)) la20 L ch gb f93 f119 rs h142 := ⟨Y143, Y144, Y145, Y146, Y147, Y148, Y149, Fw142, Y151, Y152, Y153, Y154, Y155, Y156, Y157, Y158, Y159, Y160, Y161, Y162, Y163, nt21, wl21, gp21, gt21, gf21, gr21, gu21⟩
  have q167 : 0 ≤ ((r20 + (1 : Int32))).toInt := by
   have r1 := rng32 r20
   have k2 : (1 : Int32).toInt = 1 := by decide
   have e3 := c_iadd (r20) ((1 : Int32))
   have r3 := rng32 ((r20 + (1 : Int32)))
   rw [show (1 : Int32).toInt = 1 from by decide] at e3
   have k4 : (2 : Int32).toInt = 2 := by decide
   have e5 := c_iadd (r20) ((2 : Int32))
   have r5 := rng32 ((r20 + (2 : Int32)))
   rw [show (2 : Int32).toInt = 2 from by decide] at e5
   have r6 := rng32 tl
   have e7 := c_isub (tl) (r20)
   have r7 := rng32 ((tl - r20))
   have e8 := c_isub ((tl - r20)) ((1 : Int32))
   have r8 := rng32 (((tl - r20) - (1 : Int32)))
   rw [show (1 : Int32).toInt = 1 from by decide] at e8
   have e9 := c_iadd (tl) ((1 : Int32))
   have r9 := rng32 ((tl + (1 : Int32)))
   rw [show (1 : Int32).toInt = 1 from by decide] at e9
   have r10 := rng32 L
   omega
  have q168 : ((r20 + (1 : Int32))).toInt < ((tl + (1 : Int32))).toInt := by
   have r1 := rng32 r20
   have k2 : (1 : Int32).toInt = 1 := by decide
   have e3 := c_iadd (r20) ((1 : Int32))
   have r3 := rng32 ((r20 + (1 : Int32)))
   rw [show (1 : Int32).toInt = 1 from by decide] at e3
   have k4 : (2 : Int32).toInt = 2 := by decide
   have e5 := c_iadd (r20) ((2 : Int32))
   have r5 := rng32 ((r20 + (2 : Int32)))
   rw [show (2 : Int32).toInt = 2 from by decide] at e5
   have r6 := rng32 tl
   have e7 := c_isub (tl) (r20)
   have r7 := rng32 ((tl - r20))
   have e8 := c_isub ((tl - r20)) ((1 : Int32))
   have r8 := rng32 (((tl - r20) - (1 : Int32)))
   rw [show (1 : Int32).toInt = 1 from by decide] at e8
   have e9 := c_iadd (tl) ((1 : Int32))
   have r9 := rng32 ((tl + (1 : Int32)))
   rw [show (1 : Int32).toInt = 1 from by decide] at e9
   have r10 := rng32 L
   omega
  have q169 : tl.toInt ≤ ((tl + (1 : Int32))).toInt := by
   have r1 := rng32 r20
   have k2 : (1 : Int32).toInt = 1 := by decide
   have e3 := c_iadd (r20) ((1 : Int32))
   have r3 := rng32 ((r20 + (1 : Int32)))
   rw [show (1 : Int32).toInt = 1 from by decide] at e3
   have k4 : (2 : Int32).toInt = 2 := by decide
   have e5 := c_iadd (r20) ((2 : Int32))
   have r5 := rng32 ((r20 + (2 : Int32)))
   rw [show (2 : Int32).toInt = 2 from by decide] at e5
   have r6 := rng32 tl
   have e7 := c_isub (tl) (r20)
   have r7 := rng32 ((tl - r20))
   have e8 := c_isub ((tl - r20)) ((1 : Int32))
   have r8 := rng32 (((tl - r20) - (1 : Int32)))
   rw [show (1 : Int32).toInt = 1 from by decide] at e8
   have e9 := c_iadd (tl) ((1 : Int32))
   have r9 := rng32 ((tl + (1 : Int32)))
   rw [show (1 : Int32).toInt = 1 from by decide] at e9
   have r10 := rng32 L
   omega
  have q170 : ((tl + (1 : Int32))).toInt ≤ tl.toInt + 1 := by
   have r1 := rng32 r20
   have k2 : (1 : Int32).toInt = 1 := by decide
   have e3 := c_iadd (r20) ((1 : Int32))
   have r3 := rng32 ((r20 + (1 : Int32)))
   rw [show (1 : Int32).toInt = 1 from by decide] at e3
   have k4 : (2 : Int32).toInt = 2 := by decide
   have e5 := c_iadd (r20) ((2 : Int32))
   have r5 := rng32 ((r20 + (2 : Int32)))
   rw [show (2 : Int32).toInt = 2 from by decide] at e5
   have r6 := rng32 tl
   have e7 := c_isub (tl) (r20)
   have r7 := rng32 ((tl - r20))
   have e8 := c_isub ((tl - r20)) ((1 : Int32))
   have r8 := rng32 (((tl - r20) - (1 : Int32)))
   rw [show (1 : Int32).toInt = 1 from by decide] at e8
   have e9 := c_iadd (tl) ((1 : Int32))
   have r9 := rng32 ((tl + (1 : Int32)))
   rw [show (1 : Int32).toInt = 1 from by decide] at e9
   have r10 := rng32 L
   omega
  have ma171 : ((r20 + (1 : Int32))).toNatClampNeg = r20.toNatClampNeg + 1 := by
   have r1 := rng32 r20
   have k2 : (1 : Int32).toInt = 1 := by decide
   have e3 := c_iadd (r20) ((1 : Int32))
   have r3 := rng32 ((r20 + (1 : Int32)))
   rw [show (1 : Int32).toInt = 1 from by decide] at e3
   have k4 : (2 : Int32).toInt = 2 := by decide
   have e5 := c_iadd (r20) ((2 : Int32))
   have r5 := rng32 ((r20 + (2 : Int32)))
   rw [show (2 : Int32).toInt = 2 from by decide] at e5
   have r6 := rng32 tl
   have e7 := c_isub (tl) (r20)
   have r7 := rng32 ((tl - r20))
   have e8 := c_isub ((tl - r20)) ((1 : Int32))
   have r8 := rng32 (((tl - r20) - (1 : Int32)))
   rw [show (1 : Int32).toInt = 1 from by decide] at e8
   have e9 := c_iadd (tl) ((1 : Int32))
   have r9 := rng32 ((tl + (1 : Int32)))
   rw [show (1 : Int32).toInt = 1 from by decide] at e9
   have r10 := rng32 L
   have n0 := o_nat (tl) (by omega)
   have n1 := o_nat (r20) (by omega)
   have n2 := o_nat ((r20 + (1 : Int32))) (by omega)
   have n3 := o_nat ((r20 + (2 : Int32))) (by omega)
   have n4 := o_nat (((tl - r20) - (1 : Int32))) (by omega)
   have n5 := o_nat ((tl + (1 : Int32))) (by omega)
   omega
  have mb171 : ((r20 + (2 : Int32))).toNatClampNeg = r20.toNatClampNeg + 2 := by
   have r1 := rng32 r20
   have k2 : (1 : Int32).toInt = 1 := by decide
   have e3 := c_iadd (r20) ((1 : Int32))
   have r3 := rng32 ((r20 + (1 : Int32)))
   rw [show (1 : Int32).toInt = 1 from by decide] at e3
   have k4 : (2 : Int32).toInt = 2 := by decide
   have e5 := c_iadd (r20) ((2 : Int32))
   have r5 := rng32 ((r20 + (2 : Int32)))
   rw [show (2 : Int32).toInt = 2 from by decide] at e5
   have r6 := rng32 tl
   have e7 := c_isub (tl) (r20)
   have r7 := rng32 ((tl - r20))
   have e8 := c_isub ((tl - r20)) ((1 : Int32))
   have r8 := rng32 (((tl - r20) - (1 : Int32)))
   rw [show (1 : Int32).toInt = 1 from by decide] at e8
   have e9 := c_iadd (tl) ((1 : Int32))
   have r9 := rng32 ((tl + (1 : Int32)))
   rw [show (1 : Int32).toInt = 1 from by decide] at e9
   have r10 := rng32 L
   have n0 := o_nat (tl) (by omega)
   have n1 := o_nat (r20) (by omega)
   have n2 := o_nat ((r20 + (1 : Int32))) (by omega)
   have n3 := o_nat ((r20 + (2 : Int32))) (by omega)
   have n4 := o_nat (((tl - r20) - (1 : Int32))) (by omega)
   have n5 := o_nat ((tl + (1 : Int32))) (by omega)
   omega
  have mc171 : (((tl - r20) - (1 : Int32))).toNatClampNeg + r20.toNatClampNeg + 1 = tl.toNatClampNeg := by
   have r1 := rng32 r20
   have k2 : (1 : Int32).toInt = 1 := by decide
   have e3 := c_iadd (r20) ((1 : Int32))
   have r3 := rng32 ((r20 + (1 : Int32)))
   rw [show (1 : Int32).toInt = 1 from by decide] at e3
   have k4 : (2 : Int32).toInt = 2 := by decide
   have e5 := c_iadd (r20) ((2 : Int32))
   have r5 := rng32 ((r20 + (2 : Int32)))
   rw [show (2 : Int32).toInt = 2 from by decide] at e5
   have r6 := rng32 tl
   have e7 := c_isub (tl) (r20)
   have r7 := rng32 ((tl - r20))
   have e8 := c_isub ((tl - r20)) ((1 : Int32))
   have r8 := rng32 (((tl - r20) - (1 : Int32)))
   rw [show (1 : Int32).toInt = 1 from by decide] at e8
   have e9 := c_iadd (tl) ((1 : Int32))
   have r9 := rng32 ((tl + (1 : Int32)))
   rw [show (1 : Int32).toInt = 1 from by decide] at e9
   have r10 := rng32 L
   have n0 := o_nat (tl) (by omega)
   have n1 := o_nat (r20) (by omega)
   have n2 := o_nat ((r20 + (1 : Int32))) (by omega)
   have n3 := o_nat ((r20 + (2 : Int32))) (by omega)
   have n4 := o_nat (((tl - r20) - (1 : Int32))) (by omega)
   have n5 := o_nat ((tl + (1 : Int32))) (by omega)
   omega
  have md171 : ((tl + (1 : Int32))).toNatClampNeg = tl.toNatClampNeg + 1 := by
   have r1 := rng32 r20
   have k2 : (1 : Int32).toInt = 1 := by decide
   have e3 := c_iadd (r20) ((1 : Int32))
   have r3 := rng32 ((r20 + (1 : Int32)))
   rw [show (1 : Int32).toInt = 1 from by decide] at e3
   have k4 : (2 : Int32).toInt = 2 := by decide
   have e5 := c_iadd (r20) ((2 : Int32))
   have r5 := rng32 ((r20 + (2 : Int32)))
   rw [show (2 : Int32).toInt = 2 from by decide] at e5
   have r6 := rng32 tl
   have e7 := c_isub (tl) (r20)
   have r7 := rng32 ((tl - r20))
   have e8 := c_isub ((tl - r20)) ((1 : Int32))
   have r8 := rng32 (((tl - r20) - (1 : Int32)))
   rw [show (1 : Int32).toInt = 1 from by decide] at e8
   have e9 := c_iadd (tl) ((1 : Int32))
   have r9 := rng32 ((tl + (1 : Int32)))
   rw [show (1 : Int32).toInt = 1 from by decide] at e9
   have r10 := rng32 L
   have n0 := o_nat (tl) (by omega)
   have n1 := o_nat (r20) (by omega)
   have n2 := o_nat ((r20 + (1 : Int32))) (by omega)
   have n3 := o_nat ((r20 + (2 : Int32))) (by omega)
   have n4 := o_nat (((tl - r20) - (1 : Int32))) (by omega)
   have n5 := o_nat ((tl + (1 : Int32))) (by omega)
   omega
  have me171 : r20.toNatClampNeg < tl.toNatClampNeg := by
   have r1 := rng32 r20
   have k2 : (1 : Int32).toInt = 1 := by decide
   have e3 := c_iadd (r20) ((1 : Int32))
   have r3 := rng32 ((r20 + (1 : Int32)))
   rw [show (1 : Int32).toInt = 1 from by decide] at e3
   have k4 : (2 : Int32).toInt = 2 := by decide
   have e5 := c_iadd (r20) ((2 : Int32))
   have r5 := rng32 ((r20 + (2 : Int32)))
   rw [show (2 : Int32).toInt = 2 from by decide] at e5
   have r6 := rng32 tl
   have e7 := c_isub (tl) (r20)
   have r7 := rng32 ((tl - r20))
   have e8 := c_isub ((tl - r20)) ((1 : Int32))
   have r8 := rng32 (((tl - r20) - (1 : Int32)))
   rw [show (1 : Int32).toInt = 1 from by decide] at e8
   have e9 := c_iadd (tl) ((1 : Int32))
   have r9 := rng32 ((tl + (1 : Int32)))
   rw [show (1 : Int32).toInt = 1 from by decide] at e9
   have r10 := rng32 L
   have n0 := o_nat (tl) (by omega)
   have n1 := o_nat (r20) (by omega)
   have n2 := o_nat ((r20 + (1 : Int32))) (by omega)
   have n3 := o_nat ((r20 + (2 : Int32))) (by omega)
   have n4 := o_nat (((tl - r20) - (1 : Int32))) (by omega)
   have n5 := o_nat ((tl + (1 : Int32))) (by omega)
   omega
  have F171 : ∀ i, f119 i = if i = r20.toNatClampNeg + 1 then fs r20.toNatClampNeg else if r20.toNatClampNeg + 2 ≤ i ∧ i < tl.toNatClampNeg + 1 then fs (i - 1) else fs i := by
   intro i
   rw [d_f119, d_f69]
   dsimp only
   rw [ma171, mb171]
   by_cases z1 : i = r20.toNatClampNeg + 1
   ·rw [if_pos z1, if_pos z1, if_neg (by omega)]
   ·rw [if_neg z1, if_neg z1]
    by_cases z2 : r20.toNatClampNeg + 2 ≤ i ∧ i < tl.toNatClampNeg + 1
    ·rw [if_pos z2, if_pos (by omega), show r20.toNatClampNeg + 1 + (i - (r20.toNatClampNeg + 2)) = i - 1 by omega]
    ·rw [if_neg z2, if_neg (by omega)]
  have G171 : ∀ i, f93 i = if i = r20.toNatClampNeg + 1 then time else if r20.toNatClampNeg + 2 ≤ i ∧ i < tl.toNatClampNeg + 1 then xs (i - 1) else xs i := by
   intro i
   rw [d_f93, d_f44]
   dsimp only
   rw [ma171, mb171]
   by_cases z1 : i = r20.toNatClampNeg + 1
   ·rw [if_pos z1, if_pos z1]
   ·rw [if_neg z1, if_neg z1]
    by_cases z2 : r20.toNatClampNeg + 2 ≤ i ∧ i < tl.toNatClampNeg + 1
    ·rw [if_pos z2, if_pos (by omega), show r20.toNatClampNeg + 1 + (i - (r20.toNatClampNeg + 2)) = i - 1 by omega]
    ·rw [if_neg z2, if_neg (by omega)]
  obtain ⟨P171, X171, Y171⟩ := o_ins (A := r20.toNatClampNeg) (TL := tl.toNatClampNeg) me171 F171 G171 (fun hm hz q => c0 (by rw [q, hm]; exact (o_maxL _ (by have y := sc20 hz; rw [q, hm] at y; exact y)).symm))
  refine o_retI X165 hx hlk hret (hb hby o_d11_115) ?_ (o_b rfl) (o_b rfl)
  rw [e165]
  exact ⟨(r20 + (1 : Int32)), (tl + (1 : Int32)), la20, f93, f119, rfl, N_142, hP166, q167, q168, q169, q170, (by rw [md171]; exact P171), X171, (by rw [md171]; exact Y171)⟩
theorem o_d18_0 : decode o_y6 0 = .ok (.iload_n 1, 1) := by decide +kernel
theorem o_d18_1 : decode o_y6 1 = .ok (.aload_n 0, 1) := by decide +kernel
theorem o_d18_2 : decode o_y6 2 = .ok (.getfield 56, 3) := by decide +kernel
theorem o_d18_5 : decode o_y6 5 = .ok (.if_icmp .le 92, 3) := by decide +kernel
theorem o_d18_8 : decode o_y6 8 = .ok (.iload_n 1, 1) := by decide +kernel
theorem o_d18_9 : decode o_y6 9 = .ok (.aload_n 0, 1) := by decide +kernel
theorem o_d18_10 : decode o_y6 10 = .ok (.getfield 53, 3) := by decide +kernel
theorem o_d18_13 : decode o_y6 13 = .ok (.if_icmp .ge 84, 3) := by decide +kernel
theorem o_d18_16 : decode o_y6 16 = .ok (.aload_n 0, 1) := by decide +kernel
theorem o_d18_17 : decode o_y6 17 = .ok (.getfield 49, 3) := by decide +kernel
theorem o_d18_20 : decode o_y6 20 = .ok (.iload_n 1, 1) := by decide +kernel
theorem o_d18_21 : decode o_y6 21 = .ok (.iaload, 1) := by decide +kernel
theorem o_d18_22 : decode o_y6 22 = .ok (.aload_n 0, 1) := by decide +kernel
theorem o_d18_23 : decode o_y6 23 = .ok (.getfield 49, 3) := by decide +kernel
theorem o_d18_26 : decode o_y6 26 = .ok (.iload_n 1, 1) := by decide +kernel
theorem o_d18_27 : decode o_y6 27 = .ok (.iconst 1, 1) := by decide +kernel
theorem o_d18_28 : decode o_y6 28 = .ok (.isub, 1) := by decide +kernel
theorem o_d18_29 : decode o_y6 29 = .ok (.iaload, 1) := by decide +kernel
theorem o_d18_30 : decode o_y6 30 = .ok (.if_icmp .ne 67, 3) := by decide +kernel
theorem o_d18_33 : decode o_y6 33 = .ok (.aload_n 0, 1) := by decide +kernel
theorem o_d18_34 : decode o_y6 34 = .ok (.getfield 46, 3) := by decide +kernel
theorem o_d18_37 : decode o_y6 37 = .ok (.iload_n 1, 1) := by decide +kernel
theorem o_d18_38 : decode o_y6 38 = .ok (.iconst 1, 1) := by decide +kernel
theorem o_d18_39 : decode o_y6 39 = .ok (.iadd, 1) := by decide +kernel
theorem o_d18_40 : decode o_y6 40 = .ok (.aload_n 0, 1) := by decide +kernel
theorem o_d18_41 : decode o_y6 41 = .ok (.getfield 46, 3) := by decide +kernel
theorem o_d18_44 : decode o_y6 44 = .ok (.iload_n 1, 1) := by decide +kernel
theorem o_d18_45 : decode o_y6 45 = .ok (.aload_n 0, 1) := by decide +kernel
theorem o_d18_46 : decode o_y6 46 = .ok (.getfield 53, 3) := by decide +kernel
theorem o_d18_49 : decode o_y6 49 = .ok (.iload_n 1, 1) := by decide +kernel
theorem o_d18_50 : decode o_y6 50 = .ok (.isub, 1) := by decide +kernel
theorem o_d18_51 : decode o_y6 51 = .ok (.iconst 1, 1) := by decide +kernel
theorem o_d18_52 : decode o_y6 52 = .ok (.isub, 1) := by decide +kernel
theorem o_d18_53 : decode o_y6 53 = .ok (.invokestatic 244, 3) := by decide +kernel
theorem o_d18_56 : decode o_y6 56 = .ok (.aload_n 0, 1) := by decide +kernel
theorem o_d18_57 : decode o_y6 57 = .ok (.getfield 49, 3) := by decide +kernel
theorem o_d18_60 : decode o_y6 60 = .ok (.iload_n 1, 1) := by decide +kernel
theorem o_d18_61 : decode o_y6 61 = .ok (.iconst 1, 1) := by decide +kernel
theorem o_d18_62 : decode o_y6 62 = .ok (.iadd, 1) := by decide +kernel
theorem o_d18_63 : decode o_y6 63 = .ok (.aload_n 0, 1) := by decide +kernel
theorem o_d18_64 : decode o_y6 64 = .ok (.getfield 49, 3) := by decide +kernel
theorem o_d18_67 : decode o_y6 67 = .ok (.iload_n 1, 1) := by decide +kernel
theorem o_d18_68 : decode o_y6 68 = .ok (.aload_n 0, 1) := by decide +kernel
theorem o_d18_69 : decode o_y6 69 = .ok (.getfield 53, 3) := by decide +kernel
theorem o_d18_72 : decode o_y6 72 = .ok (.iload_n 1, 1) := by decide +kernel
theorem o_d18_73 : decode o_y6 73 = .ok (.isub, 1) := by decide +kernel
theorem o_d18_74 : decode o_y6 74 = .ok (.iconst 1, 1) := by decide +kernel
theorem o_d18_75 : decode o_y6 75 = .ok (.isub, 1) := by decide +kernel
theorem o_d18_76 : decode o_y6 76 = .ok (.invokestatic 244, 3) := by decide +kernel
theorem o_d18_79 : decode o_y6 79 = .ok (.aload_n 0, 1) := by decide +kernel
theorem o_d18_80 : decode o_y6 80 = .ok (.dup, 1) := by decide +kernel
theorem o_d18_81 : decode o_y6 81 = .ok (.getfield 53, 3) := by decide +kernel
theorem o_d18_84 : decode o_y6 84 = .ok (.iconst 1, 1) := by decide +kernel
theorem o_d18_85 : decode o_y6 85 = .ok (.isub, 1) := by decide +kernel
theorem o_d18_86 : decode o_y6 86 = .ok (.putfield 53, 3) := by decide +kernel
theorem o_d18_89 : decode o_y6 89 = .ok (.aload_n 0, 1) := by decide +kernel
theorem o_d18_90 : decode o_y6 90 = .ok (.getfield 14, 3) := by decide +kernel
theorem o_d18_93 : decode o_y6 93 = .ok (.iload_n 1, 1) := by decide +kernel
theorem o_d18_94 : decode o_y6 94 = .ok (.invokevirtual 312, 3) := by decide +kernel
theorem o_d24_0 : decode o_y7 0 = .ok (.aload_n 0, 1) := by decide +kernel
theorem o_d24_1 : decode o_y7 1 = .ok (.getfield 15, 3) := by decide +kernel
theorem o_d24_4 : decode o_y7 4 = .ok (.ifnonnull 4, 3) := by decide +kernel
theorem o_d24_7 : decode o_y7 7 = .ok (.return_, 1) := by decide +kernel
theorem o_pn24 : plainFor (⟨o_n3, "removed", "(I)V"⟩ : MethodName) = true := plainFor_of_name (by first | (simp [plainName, overriddenIn]; done) | decide +kernel)
set_option maxRecDepth 65536 in
set_option maxHeartbeats 40000000 in
theorem o_k24_4 (l : Launch) (Z : State) (a0 : Array Value) (hw : ∀ d ∈ tables_1, d.before a0 Z = true) (p0 : Addr) (p1 : Int32) (h0 : Heap) (H0 : Fld Z h0 p0 o_n3 "nodes" "[[J" .null) :
  o_C l (⟨o_n3, "removed", "(I)V"⟩ : MethodName) o_y7 4 none (o_R 0 0 0 0) Z h0 #[(.ref p0), (.int p1)] (o_P none h0) := by
 refine o_body o_pn24 ?_
 intro p e s m below meth c s₁ hx hby hml hZ hown hnm hret hlk X0 e0
 refine o_cast (f' := (o_f9 m 0 p0 p1 [])) (by first | (simp [entryFrame, mkF, argsToLocals, Value.category, maxLocals]; done) | rfl) ?_
 refine o_q s₁ (o_f9 m 1 p0 p1 [(.ref p0)]) (fun _ k => XS.aloadN X0.here hx rfl (hb hby o_d24_0) rfl rfl k) ?_
 obtain ⟨T1, X1, e1, st1⟩ := getF X0 hx hZ hown (host := "") (Or.inl (o_m hw 103 rfl)) Via.refl e0 H0 (g := (o_f9 m 1 p0 p1 [(.ref p0)])) rfl rfl (hb hby o_d24_1)
 refine o_q T1 (o_f9 m 4 p0 p1 [.null]) st1 ?_
 refine o_q T1 (o_f9 m 7 p0 p1 []) (fun _ k => XS.ifnonnullNo X1.here hx rfl (hb hby o_d24_4) rfl k) ?_
 exact o_retV X1 hx hlk hret (hb hby o_d24_7) ⟨rfl, rfl, e1⟩ (by decide) (by decide)
theorem o_d18_97 : decode o_y6 97 = .ok (.return_, 1) := by decide +kernel
theorem o_pn18 : plainFor (⟨o_n1, "mergeWithPrevious", "(I)V"⟩ : MethodName) = true := plainFor_of_name (by first | (simp [plainName, overriddenIn]; done) | decide +kernel)
set_option maxRecDepth 65536 in
set_option maxHeartbeats 40000000 in
theorem o_merge (l : Launch) (Z : State) (a0 : Array Value) (hw : ∀ d ∈ tables_1, d.before a0 Z = true) (n0 : Nat) (pp rc ru wa tm fr : Addr) (tl la L : Int32) (ch gb : Int64) (xs : Nat → Int64) (fs : Nat → Int32) (rs : Nat → Int64) (pl : Int32) (h0 : Heap) (hP : o_Pr Z n0 pp rc ru wa tm fr tl la L ch gb xs fs rs h0) (i1 : 1 ≤ tl.toInt) (i2 : tl.toInt ≤ L.toInt) (i3 : L.toInt ≤ 32) (j1 : 0 ≤ pl.toInt) :
  o_C l (⟨o_n1, "mergeWithPrevious", "(I)V"⟩ : MethodName) o_y6 2 none (o_R 1 0 0 40) Z h0 #[(.ref pp), (.int pl)] (fun v h Ls => ∃ (tl' : Int32) (xs' : Nat → Int64) (fs' : Nat → Int32), v = none ∧ Fr n0 Ls ∧ o_Pr Z n0 pp rc ru wa tm fr tl' la L ch gb xs' fs' rs h ∧ 1 ≤ tl'.toInt ∧ tl'.toInt ≤ tl.toInt ∧ (∀ i, i < tl'.toNatClampNeg → ∃ k, k < tl.toNatClampNeg ∧ fs' i = fs k) ∧ xs' 0 = xs 0 ∧ (xs (tl.toNatClampNeg - 1) = (9223372036854775807 : Int64) → (∀ k, k + 1 < tl.toNatClampNeg → fs k ≠ fs (tl.toNatClampNeg - 1)) → xs' (tl'.toNatClampNeg - 1) = (9223372036854775807 : Int64) ∧ fs' (tl'.toNatClampNeg - 1) = fs (tl.toNatClampNeg - 1) ∧ ∀ i, i + 1 < tl'.toNatClampNeg → ∃ k, k + 1 < tl.toNatClampNeg ∧ fs' i = fs k)) := by
 refine o_body o_pn18 ?_
 intro p e s m below meth c s₁ hx hby hml hZ hown hnm hret hlk X0 e0
 refine o_cast (f' := (o_f10 m 0 pp pl [])) (by first | (simp [entryFrame, mkF, argsToLocals, Value.category, maxLocals]; done) | rfl) ?_
 obtain ⟨Ep1, Er1, Ew1, F1_cpus, F1_times, F1_free, F1_head, F1_tail, F1_lastAt, F1_runs, F1_firstKnown, F1_watcher, F1_watchedAs, F1_changes, F1_merged, F1_gaveBack, F1_recent, Fn1, At1, Af1, Ar1, nt1, wl1, gp1, gt1, gf1, gr1, gu1⟩ := hP
 have ne2 : o_ne pp ru := Ep1.ne Er1 (by decide)
 have ne3 : o_ne pp tm := At1.neExa Ep1 (o_m hw 8 rfl)
 have ne4 : o_ne ru tm := At1.neExa Er1 (o_m hw 17 rfl)
 have ne5 : o_ne pp fr := Af1.neExa Ep1 (o_m hw 8 rfl)
 have ne6 : o_ne ru fr := Af1.neExa Er1 (o_m hw 17 rfl)
 have ne7 : o_ne pp rc := Ar1.neExa Ep1 (o_m hw 8 rfl)
 have ne8 : o_ne ru rc := Ar1.neExa Er1 (o_m hw 17 rfl)
 have ne9 : o_ne wa pp := Nat.ne_of_lt (Nat.lt_of_lt_of_le wl1 gp1)
 have ne10 : o_ne wa tm := Nat.ne_of_lt (Nat.lt_of_lt_of_le wl1 gt1)
 have ne11 : o_ne wa fr := Nat.ne_of_lt (Nat.lt_of_lt_of_le wl1 gf1)
 have ne12 : o_ne wa rc := Nat.ne_of_lt (Nat.lt_of_lt_of_le wl1 gr1)
 have ne13 : o_ne wa ru := Nat.ne_of_lt (Nat.lt_of_lt_of_le wl1 gu1)
 have ne14 : o_ne tm fr := At1.ne Af1 (by intro q; cases q)
 have ne15 : o_ne fr rc := Af1.ne Ar1 (by intro q; cases q)
 refine o_q s₁ (o_f10 m 1 pp pl [(.int pl)]) (fun _ k => XS.iloadN X0.here hx rfl (hb hby o_d18_0) rfl k) ?_
 refine o_q s₁ (o_f10 m 2 pp pl [(.ref pp), (.int pl)]) (fun _ k => XS.aloadN X0.here hx rfl (hb hby o_d18_1) rfl rfl k) ?_
 obtain ⟨T16, X16, e16, st16⟩ := getF X0 hx hZ hown (host := "") (Or.inl (o_m hw 92 rfl)) Via.refl e0 F1_head (g := (o_f10 m 2 pp pl [(.ref pp), (.int pl)])) rfl rfl (hb hby o_d18_2)
 refine o_q T16 (o_f10 m 5 pp pl [(.int (0 : Int32)), (.int pl)]) st16 ?_
 by_cases c0 : (0 : Int32) < pl
 ·refine o_q T16 (o_f10 m 8 pp pl []) (fun _ k => XS.icmpNo X16.here hx rfl (hb hby o_d18_5) rfl (tlt c0).2.2.2 k) ?_
  refine o_q T16 (o_f10 m 9 pp pl [(.int pl)]) (fun _ k => XS.iloadN X16.here hx rfl (hb hby o_d18_8) rfl k) ?_
  refine o_q T16 (o_f10 m 10 pp pl [(.ref pp), (.int pl)]) (fun _ k => XS.aloadN X16.here hx rfl (hb hby o_d18_9) rfl rfl k) ?_
  obtain ⟨T17, X17, e17, st17⟩ := getF X16 hx hZ hown (host := "") (Or.inl (o_m hw 48 rfl)) Via.refl e16 F1_tail (g := (o_f10 m 10 pp pl [(.ref pp), (.int pl)])) rfl rfl (hb hby o_d18_10)
  refine o_q T17 (o_f10 m 13 pp pl [(.int tl), (.int pl)]) st17 ?_
  by_cases c1 : pl < tl
  ·refine o_q T17 (o_f10 m 16 pp pl []) (fun _ k => XS.icmpNo X17.here hx rfl (hb hby o_d18_13) rfl (tlt c1).2.1 k) ?_
   refine o_q T17 (o_f10 m 17 pp pl [(.ref pp)]) (fun _ k => XS.aloadN X17.here hx rfl (hb hby o_d18_16) rfl rfl k) ?_
   obtain ⟨T18, X18, e18, st18⟩ := getF X17 hx hZ hown (host := "") (Or.inl (o_m hw 46 rfl)) Via.refl e17 F1_free (g := (o_f10 m 17 pp pl [(.ref pp)])) rfl rfl (hb hby o_d18_17)
   refine o_q T18 (o_f10 m 20 pp pl [(.ref fr)]) st18 ?_
   refine o_q T18 (o_f10 m 21 pp pl [(.int pl), (.ref fr)]) (fun _ k => XS.iloadN X18.here hx rfl (hb hby o_d18_20) rfl k) ?_
   have hin19 : ¬ (pl < (0 : Int32)) ∧ pl < L := by
    have r1 := rng32 pl
    have r2 := rng32 L
    have k3 : (0 : Int32).toInt = 0 := by decide
    have r4 := rng32 tl
    have d0 : (0 : Int32).toInt < pl.toInt := Int32.lt_iff_toInt_lt.mp c0
    have d1 : pl.toInt < tl.toInt := Int32.lt_iff_toInt_lt.mp c1
    rw [Int32.lt_iff_toInt_lt, Int32.lt_iff_toInt_lt]
    omega
   refine o_q T18 (o_f10 m 22 pp pl [(.int (fs pl.toNatClampNeg))]) (fun _ k => o_ldI X18 hx hZ e18 Af1 hin19 (g := (o_f10 m 21 pp pl [(.int pl), (.ref fr)])) rfl rfl (hb hby o_d18_21) _ k) ?_
   refine o_q T18 (o_f10 m 23 pp pl [(.ref pp), (.int (fs pl.toNatClampNeg))]) (fun _ k => XS.aloadN X18.here hx rfl (hb hby o_d18_22) rfl rfl k) ?_
   obtain ⟨T20, X20, e20, st20⟩ := getF X18 hx hZ hown (host := "") (Or.inl (o_m hw 46 rfl)) Via.refl e18 F1_free (g := (o_f10 m 23 pp pl [(.ref pp), (.int (fs pl.toNatClampNeg))])) rfl rfl (hb hby o_d18_23)
   refine o_q T20 (o_f10 m 26 pp pl [(.ref fr), (.int (fs pl.toNatClampNeg))]) st20 ?_
   refine o_q T20 (o_f10 m 27 pp pl [(.int pl), (.ref fr), (.int (fs pl.toNatClampNeg))]) (fun _ k => XS.iloadN X20.here hx rfl (hb hby o_d18_26) rfl k) ?_
   refine o_q T20 (o_f10 m 28 pp pl [(.int (1 : Int32)), (.int pl), (.ref fr), (.int (fs pl.toNatClampNeg))]) (fun _ k => XS.iconst X20.here hx rfl (hb hby o_d18_27) k) ?_
   refine o_q T20 (o_f10 m 29 pp pl [(.int (pl - (1 : Int32))), (.ref fr), (.int (fs pl.toNatClampNeg))]) (fun _ k => XS.isub X20.here hx rfl (hb hby o_d18_28) rfl k) ?_
   have hin21 : ¬ ((pl - (1 : Int32)) < (0 : Int32)) ∧ (pl - (1 : Int32)) < L := by
    have r1 := rng32 pl
    have k2 : (1 : Int32).toInt = 1 := by decide
    have e3 := c_isub (pl) ((1 : Int32))
    have r3 := rng32 ((pl - (1 : Int32)))
    rw [show (1 : Int32).toInt = 1 from by decide] at e3
    have r4 := rng32 L
    have k5 : (0 : Int32).toInt = 0 := by decide
    have r6 := rng32 tl
    have d0 : (0 : Int32).toInt < pl.toInt := Int32.lt_iff_toInt_lt.mp c0
    have d1 : pl.toInt < tl.toInt := Int32.lt_iff_toInt_lt.mp c1
    rw [Int32.lt_iff_toInt_lt, Int32.lt_iff_toInt_lt]
    omega
   refine o_q T20 (o_f10 m 30 pp pl [(.int (fs ((pl - (1 : Int32))).toNatClampNeg)), (.int (fs pl.toNatClampNeg))]) (fun _ k => o_ldI X20 hx hZ e20 Af1 hin21 (g := (o_f10 m 29 pp pl [(.int (pl - (1 : Int32))), (.ref fr), (.int (fs pl.toNatClampNeg))])) rfl rfl (hb hby o_d18_29) _ k) ?_
   by_cases c2 : (fs pl.toNatClampNeg) = (fs ((pl - (1 : Int32))).toNatClampNeg)
   ·refine o_q T20 (o_f10 m 33 pp pl []) (fun _ k => XS.icmpNo X20.here hx rfl (hb hby o_d18_30) rfl (teq c2).2 k) ?_
    refine o_q T20 (o_f10 m 34 pp pl [(.ref pp)]) (fun _ k => XS.aloadN X20.here hx rfl (hb hby o_d18_33) rfl rfl k) ?_
    obtain ⟨T22, X22, e22, st22⟩ := getF X20 hx hZ hown (host := "") (Or.inl (o_m hw 43 rfl)) Via.refl e20 F1_times (g := (o_f10 m 34 pp pl [(.ref pp)])) rfl rfl (hb hby o_d18_34)
    refine o_q T22 (o_f10 m 37 pp pl [(.ref tm)]) st22 ?_
    refine o_q T22 (o_f10 m 38 pp pl [(.int pl), (.ref tm)]) (fun _ k => XS.iloadN X22.here hx rfl (hb hby o_d18_37) rfl k) ?_
    refine o_q T22 (o_f10 m 39 pp pl [(.int (1 : Int32)), (.int pl), (.ref tm)]) (fun _ k => XS.iconst X22.here hx rfl (hb hby o_d18_38) k) ?_
    refine o_q T22 (o_f10 m 40 pp pl [(.int (pl + (1 : Int32))), (.ref tm)]) (fun _ k => XS.iadd X22.here hx rfl (hb hby o_d18_39) rfl k) ?_
    refine o_q T22 (o_f10 m 41 pp pl [(.ref pp), (.int (pl + (1 : Int32))), (.ref tm)]) (fun _ k => XS.aloadN X22.here hx rfl (hb hby o_d18_40) rfl rfl k) ?_
    obtain ⟨T23, X23, e23, st23⟩ := getF X22 hx hZ hown (host := "") (Or.inl (o_m hw 43 rfl)) Via.refl e22 F1_times (g := (o_f10 m 41 pp pl [(.ref pp), (.int (pl + (1 : Int32))), (.ref tm)])) rfl rfl (hb hby o_d18_41)
    refine o_q T23 (o_f10 m 44 pp pl [(.ref tm), (.int (pl + (1 : Int32))), (.ref tm)]) st23 ?_
    refine o_q T23 (o_f10 m 45 pp pl [(.int pl), (.ref tm), (.int (pl + (1 : Int32))), (.ref tm)]) (fun _ k => XS.iloadN X23.here hx rfl (hb hby o_d18_44) rfl k) ?_
    refine o_q T23 (o_f10 m 46 pp pl [(.ref pp), (.int pl), (.ref tm), (.int (pl + (1 : Int32))), (.ref tm)]) (fun _ k => XS.aloadN X23.here hx rfl (hb hby o_d18_45) rfl rfl k) ?_
    obtain ⟨T24, X24, e24, st24⟩ := getF X23 hx hZ hown (host := "") (Or.inl (o_m hw 48 rfl)) Via.refl e23 F1_tail (g := (o_f10 m 46 pp pl [(.ref pp), (.int pl), (.ref tm), (.int (pl + (1 : Int32))), (.ref tm)])) rfl rfl (hb hby o_d18_46)
    refine o_q T24 (o_f10 m 49 pp pl [(.int tl), (.int pl), (.ref tm), (.int (pl + (1 : Int32))), (.ref tm)]) st24 ?_
    refine o_q T24 (o_f10 m 50 pp pl [(.int pl), (.int tl), (.int pl), (.ref tm), (.int (pl + (1 : Int32))), (.ref tm)]) (fun _ k => XS.iloadN X24.here hx rfl (hb hby o_d18_49) rfl k) ?_
    refine o_q T24 (o_f10 m 51 pp pl [(.int (tl - pl)), (.int pl), (.ref tm), (.int (pl + (1 : Int32))), (.ref tm)]) (fun _ k => XS.isub X24.here hx rfl (hb hby o_d18_50) rfl k) ?_
    refine o_q T24 (o_f10 m 52 pp pl [(.int (1 : Int32)), (.int (tl - pl)), (.int pl), (.ref tm), (.int (pl + (1 : Int32))), (.ref tm)]) (fun _ k => XS.iconst X24.here hx rfl (hb hby o_d18_51) k) ?_
    refine o_q T24 (o_f10 m 53 pp pl [(.int ((tl - pl) - (1 : Int32))), (.int pl), (.ref tm), (.int (pl + (1 : Int32))), (.ref tm)]) (fun _ k => XS.isub X24.here hx rfl (hb hby o_d18_52) rfl k) ?_
    have u1_25 : 0 ≤ ((pl + (1 : Int32))).toInt := by
     have r1 := rng32 pl
     have k2 : (1 : Int32).toInt = 1 := by decide
     have e3 := c_iadd (pl) ((1 : Int32))
     have r3 := rng32 ((pl + (1 : Int32)))
     rw [show (1 : Int32).toInt = 1 from by decide] at e3
     have k4 : (0 : Int32).toInt = 0 := by decide
     have r5 := rng32 tl
     have r6 := rng32 ((fs pl.toNatClampNeg))
     have r7 := rng32 ((fs ((pl - (1 : Int32))).toNatClampNeg))
     have d0 : (0 : Int32).toInt < pl.toInt := Int32.lt_iff_toInt_lt.mp c0
     have d1 : pl.toInt < tl.toInt := Int32.lt_iff_toInt_lt.mp c1
     have d2 : ((fs pl.toNatClampNeg)).toInt = ((fs ((pl - (1 : Int32))).toNatClampNeg)).toInt := congrArg Int32.toInt c2
     omega
    have u2_25 : 0 ≤ pl.toInt := by
     have r1 := rng32 pl
     have k2 : (0 : Int32).toInt = 0 := by decide
     have r3 := rng32 tl
     have r4 := rng32 ((fs pl.toNatClampNeg))
     have r5 := rng32 ((fs ((pl - (1 : Int32))).toNatClampNeg))
     have d0 : (0 : Int32).toInt < pl.toInt := Int32.lt_iff_toInt_lt.mp c0
     have d1 : pl.toInt < tl.toInt := Int32.lt_iff_toInt_lt.mp c1
     have d2 : ((fs pl.toNatClampNeg)).toInt = ((fs ((pl - (1 : Int32))).toNatClampNeg)).toInt := congrArg Int32.toInt c2
     omega
    have u3_25 : 0 ≤ (((tl - pl) - (1 : Int32))).toInt := by
     have r1 := rng32 tl
     have r2 := rng32 pl
     have e3 := c_isub (tl) (pl)
     have r3 := rng32 ((tl - pl))
     have k4 : (1 : Int32).toInt = 1 := by decide
     have e5 := c_isub ((tl - pl)) ((1 : Int32))
     have r5 := rng32 (((tl - pl) - (1 : Int32)))
     rw [show (1 : Int32).toInt = 1 from by decide] at e5
     have k6 : (0 : Int32).toInt = 0 := by decide
     have r7 := rng32 ((fs pl.toNatClampNeg))
     have r8 := rng32 ((fs ((pl - (1 : Int32))).toNatClampNeg))
     have d0 : (0 : Int32).toInt < pl.toInt := Int32.lt_iff_toInt_lt.mp c0
     have d1 : pl.toInt < tl.toInt := Int32.lt_iff_toInt_lt.mp c1
     have d2 : ((fs pl.toNatClampNeg)).toInt = ((fs ((pl - (1 : Int32))).toNatClampNeg)).toInt := congrArg Int32.toInt c2
     omega
    have u4_25 : ((pl + (1 : Int32))).toInt + (((tl - pl) - (1 : Int32))).toInt ≤ L.toInt := by
     have r1 := rng32 pl
     have k2 : (1 : Int32).toInt = 1 := by decide
     have e3 := c_iadd (pl) ((1 : Int32))
     have r3 := rng32 ((pl + (1 : Int32)))
     rw [show (1 : Int32).toInt = 1 from by decide] at e3
     have r4 := rng32 tl
     have e5 := c_isub (tl) (pl)
     have r5 := rng32 ((tl - pl))
     have e6 := c_isub ((tl - pl)) ((1 : Int32))
     have r6 := rng32 (((tl - pl) - (1 : Int32)))
     rw [show (1 : Int32).toInt = 1 from by decide] at e6
     have r7 := rng32 L
     have k8 : (0 : Int32).toInt = 0 := by decide
     have r9 := rng32 ((fs pl.toNatClampNeg))
     have r10 := rng32 ((fs ((pl - (1 : Int32))).toNatClampNeg))
     have d0 : (0 : Int32).toInt < pl.toInt := Int32.lt_iff_toInt_lt.mp c0
     have d1 : pl.toInt < tl.toInt := Int32.lt_iff_toInt_lt.mp c1
     have d2 : ((fs pl.toNatClampNeg)).toInt = ((fs ((pl - (1 : Int32))).toNatClampNeg)).toInt := congrArg Int32.toInt c2
     omega
    have u5_25 : pl.toInt + (((tl - pl) - (1 : Int32))).toInt ≤ L.toInt := by
     have r1 := rng32 pl
     have r2 := rng32 tl
     have e3 := c_isub (tl) (pl)
     have r3 := rng32 ((tl - pl))
     have k4 : (1 : Int32).toInt = 1 := by decide
     have e5 := c_isub ((tl - pl)) ((1 : Int32))
     have r5 := rng32 (((tl - pl) - (1 : Int32)))
     rw [show (1 : Int32).toInt = 1 from by decide] at e5
     have r6 := rng32 L
     have k7 : (0 : Int32).toInt = 0 := by decide
     have r8 := rng32 ((fs pl.toNatClampNeg))
     have r9 := rng32 ((fs ((pl - (1 : Int32))).toNatClampNeg))
     have d0 : (0 : Int32).toInt < pl.toInt := Int32.lt_iff_toInt_lt.mp c0
     have d1 : pl.toInt < tl.toInt := Int32.lt_iff_toInt_lt.mp c1
     have d2 : ((fs pl.toNatClampNeg)).toInt = ((fs ((pl - (1 : Int32))).toNatClampNeg)).toInt := congrArg Int32.toInt c2
     omega
    obtain ⟨T25, h25, L25, X25, e25, N_25, K25, A25, st25⟩ := o_cp X24 hx hZ hown (o_m hw 94 rfl) (o_m hw 97 rfl) (o_m hw 95 rfl) (o_m hw 96 rfl) e24 At1 At1 rfl u1_25 u2_25 u3_25 u4_25 u5_25 (Fr.nil _) gt1 (g := (o_f10 m 53 pp pl [(.int ((tl - pl) - (1 : Int32))), (.int pl), (.ref tm), (.int (pl + (1 : Int32))), (.ref tm)])) rfl (by rw [hml]; rfl) rfl rfl (hb hby o_d18_53) (o_b rfl) (o_b rfl)
    obtain ⟨f25, d_f25⟩ : ∃ z : Nat → Int64, z = (fun i => if pl.toNatClampNeg ≤ i ∧ i < pl.toNatClampNeg + (((tl - pl) - (1 : Int32))).toNatClampNeg then xs (((pl + (1 : Int32))).toNatClampNeg + (i - pl.toNatClampNeg)) else xs i) := ⟨_, rfl⟩
    replace A25 : o_LA Z h25 tm L f25 := A25.congr fun i _ => by rw [d_f25]; exact (apply_ite Value.long _ _ _).symm
    have Y26 := Ep1.keep K25
    have Y27 := Er1.keep K25
    have Y28 := Ew1.keep K25
    have Y29 := F1_cpus.keep K25 (ninS ne3 nin0)
    have Y30 := F1_times.keep K25 (ninS ne3 nin0)
    have Y31 := F1_free.keep K25 (ninS ne3 nin0)
    have Y32 := F1_head.keep K25 (ninS ne3 nin0)
    have Y33 := F1_tail.keep K25 (ninS ne3 nin0)
    have Y34 := F1_lastAt.keep K25 (ninS ne3 nin0)
    have Y35 := F1_runs.keep K25 (ninS ne3 nin0)
    have Y36 := F1_firstKnown.keep K25 (ninS ne3 nin0)
    have Y37 := F1_watcher.keep K25 (ninS ne3 nin0)
    have Y38 := F1_watchedAs.keep K25 (ninS ne3 nin0)
    have Y39 := F1_changes.keep K25 (ninS ne3 nin0)
    have Y40 := F1_merged.keep K25 (ninS ne3 nin0)
    have Y41 := F1_gaveBack.keep K25 (ninS ne3 nin0)
    have Y42 := F1_recent.keep K25 (ninS ne3 nin0)
    have Y43 := Fn1.keep K25 (ninS ne4 nin0)
    have Y45 := Af1.keep K25 (ninS (Ne.symm ne14) nin0)
    have Y46 := Ar1.keep K25 (ninS (Ne.symm nt1) nin0)
    refine o_q T25 (o_f10 m 56 pp pl []) st25 ?_
    refine o_q T25 (o_f10 m 57 pp pl [(.ref pp)]) (fun _ k => XS.aloadN X25.here hx rfl (hb hby o_d18_56) rfl rfl k) ?_
    obtain ⟨T47, X47, e47, st47⟩ := getF X25 hx hZ hown (host := "") (Or.inl (o_m hw 46 rfl)) Via.refl e25 Y31 (g := (o_f10 m 57 pp pl [(.ref pp)])) rfl rfl (hb hby o_d18_57)
    refine o_q T47 (o_f10 m 60 pp pl [(.ref fr)]) st47 ?_
    refine o_q T47 (o_f10 m 61 pp pl [(.int pl), (.ref fr)]) (fun _ k => XS.iloadN X47.here hx rfl (hb hby o_d18_60) rfl k) ?_
    refine o_q T47 (o_f10 m 62 pp pl [(.int (1 : Int32)), (.int pl), (.ref fr)]) (fun _ k => XS.iconst X47.here hx rfl (hb hby o_d18_61) k) ?_
    refine o_q T47 (o_f10 m 63 pp pl [(.int (pl + (1 : Int32))), (.ref fr)]) (fun _ k => XS.iadd X47.here hx rfl (hb hby o_d18_62) rfl k) ?_
    refine o_q T47 (o_f10 m 64 pp pl [(.ref pp), (.int (pl + (1 : Int32))), (.ref fr)]) (fun _ k => XS.aloadN X47.here hx rfl (hb hby o_d18_63) rfl rfl k) ?_
    obtain ⟨T48, X48, e48, st48⟩ := getF X47 hx hZ hown (host := "") (Or.inl (o_m hw 46 rfl)) Via.refl e47 Y31 (g := (o_f10 m 64 pp pl [(.ref pp), (.int (pl + (1 : Int32))), (.ref fr)])) rfl rfl (hb hby o_d18_64)
    refine o_q T48 (o_f10 m 67 pp pl [(.ref fr), (.int (pl + (1 : Int32))), (.ref fr)]) st48 ?_
    refine o_q T48 (o_f10 m 68 pp pl [(.int pl), (.ref fr), (.int (pl + (1 : Int32))), (.ref fr)]) (fun _ k => XS.iloadN X48.here hx rfl (hb hby o_d18_67) rfl k) ?_
    refine o_q T48 (o_f10 m 69 pp pl [(.ref pp), (.int pl), (.ref fr), (.int (pl + (1 : Int32))), (.ref fr)]) (fun _ k => XS.aloadN X48.here hx rfl (hb hby o_d18_68) rfl rfl k) ?_
    obtain ⟨T49, X49, e49, st49⟩ := getF X48 hx hZ hown (host := "") (Or.inl (o_m hw 48 rfl)) Via.refl e48 Y33 (g := (o_f10 m 69 pp pl [(.ref pp), (.int pl), (.ref fr), (.int (pl + (1 : Int32))), (.ref fr)])) rfl rfl (hb hby o_d18_69)
    refine o_q T49 (o_f10 m 72 pp pl [(.int tl), (.int pl), (.ref fr), (.int (pl + (1 : Int32))), (.ref fr)]) st49 ?_
    refine o_q T49 (o_f10 m 73 pp pl [(.int pl), (.int tl), (.int pl), (.ref fr), (.int (pl + (1 : Int32))), (.ref fr)]) (fun _ k => XS.iloadN X49.here hx rfl (hb hby o_d18_72) rfl k) ?_
    refine o_q T49 (o_f10 m 74 pp pl [(.int (tl - pl)), (.int pl), (.ref fr), (.int (pl + (1 : Int32))), (.ref fr)]) (fun _ k => XS.isub X49.here hx rfl (hb hby o_d18_73) rfl k) ?_
    refine o_q T49 (o_f10 m 75 pp pl [(.int (1 : Int32)), (.int (tl - pl)), (.int pl), (.ref fr), (.int (pl + (1 : Int32))), (.ref fr)]) (fun _ k => XS.iconst X49.here hx rfl (hb hby o_d18_74) k) ?_
    refine o_q T49 (o_f10 m 76 pp pl [(.int ((tl - pl) - (1 : Int32))), (.int pl), (.ref fr), (.int (pl + (1 : Int32))), (.ref fr)]) (fun _ k => XS.isub X49.here hx rfl (hb hby o_d18_75) rfl k) ?_
    have u1_50 : 0 ≤ ((pl + (1 : Int32))).toInt := by
     have r1 := rng32 pl
     have k2 : (1 : Int32).toInt = 1 := by decide
     have e3 := c_iadd (pl) ((1 : Int32))
     have r3 := rng32 ((pl + (1 : Int32)))
     rw [show (1 : Int32).toInt = 1 from by decide] at e3
     have k4 : (0 : Int32).toInt = 0 := by decide
     have r5 := rng32 tl
     have r6 := rng32 ((fs pl.toNatClampNeg))
     have r7 := rng32 ((fs ((pl - (1 : Int32))).toNatClampNeg))
     have d0 : (0 : Int32).toInt < pl.toInt := Int32.lt_iff_toInt_lt.mp c0
     have d1 : pl.toInt < tl.toInt := Int32.lt_iff_toInt_lt.mp c1
     have d2 : ((fs pl.toNatClampNeg)).toInt = ((fs ((pl - (1 : Int32))).toNatClampNeg)).toInt := congrArg Int32.toInt c2
     omega
    have u2_50 : 0 ≤ pl.toInt := by
     have r1 := rng32 pl
     have k2 : (0 : Int32).toInt = 0 := by decide
     have r3 := rng32 tl
     have r4 := rng32 ((fs pl.toNatClampNeg))
     have r5 := rng32 ((fs ((pl - (1 : Int32))).toNatClampNeg))
     have d0 : (0 : Int32).toInt < pl.toInt := Int32.lt_iff_toInt_lt.mp c0
     have d1 : pl.toInt < tl.toInt := Int32.lt_iff_toInt_lt.mp c1
     have d2 : ((fs pl.toNatClampNeg)).toInt = ((fs ((pl - (1 : Int32))).toNatClampNeg)).toInt := congrArg Int32.toInt c2
     omega
    have u3_50 : 0 ≤ (((tl - pl) - (1 : Int32))).toInt := by
     have r1 := rng32 tl
     have r2 := rng32 pl
     have e3 := c_isub (tl) (pl)
     have r3 := rng32 ((tl - pl))
     have k4 : (1 : Int32).toInt = 1 := by decide
     have e5 := c_isub ((tl - pl)) ((1 : Int32))
     have r5 := rng32 (((tl - pl) - (1 : Int32)))
     rw [show (1 : Int32).toInt = 1 from by decide] at e5
     have k6 : (0 : Int32).toInt = 0 := by decide
     have r7 := rng32 ((fs pl.toNatClampNeg))
     have r8 := rng32 ((fs ((pl - (1 : Int32))).toNatClampNeg))
     have d0 : (0 : Int32).toInt < pl.toInt := Int32.lt_iff_toInt_lt.mp c0
     have d1 : pl.toInt < tl.toInt := Int32.lt_iff_toInt_lt.mp c1
     have d2 : ((fs pl.toNatClampNeg)).toInt = ((fs ((pl - (1 : Int32))).toNatClampNeg)).toInt := congrArg Int32.toInt c2
     omega
    have u4_50 : ((pl + (1 : Int32))).toInt + (((tl - pl) - (1 : Int32))).toInt ≤ L.toInt := by
     have r1 := rng32 pl
     have k2 : (1 : Int32).toInt = 1 := by decide
     have e3 := c_iadd (pl) ((1 : Int32))
     have r3 := rng32 ((pl + (1 : Int32)))
     rw [show (1 : Int32).toInt = 1 from by decide] at e3
     have r4 := rng32 tl
     have e5 := c_isub (tl) (pl)
     have r5 := rng32 ((tl - pl))
     have e6 := c_isub ((tl - pl)) ((1 : Int32))
     have r6 := rng32 (((tl - pl) - (1 : Int32)))
     rw [show (1 : Int32).toInt = 1 from by decide] at e6
     have r7 := rng32 L
     have k8 : (0 : Int32).toInt = 0 := by decide
     have r9 := rng32 ((fs pl.toNatClampNeg))
     have r10 := rng32 ((fs ((pl - (1 : Int32))).toNatClampNeg))
     have d0 : (0 : Int32).toInt < pl.toInt := Int32.lt_iff_toInt_lt.mp c0
     have d1 : pl.toInt < tl.toInt := Int32.lt_iff_toInt_lt.mp c1
     have d2 : ((fs pl.toNatClampNeg)).toInt = ((fs ((pl - (1 : Int32))).toNatClampNeg)).toInt := congrArg Int32.toInt c2
     omega
    have u5_50 : pl.toInt + (((tl - pl) - (1 : Int32))).toInt ≤ L.toInt := by
     have r1 := rng32 pl
     have r2 := rng32 tl
     have e3 := c_isub (tl) (pl)
     have r3 := rng32 ((tl - pl))
     have k4 : (1 : Int32).toInt = 1 := by decide
     have e5 := c_isub ((tl - pl)) ((1 : Int32))
     have r5 := rng32 (((tl - pl) - (1 : Int32)))
     rw [show (1 : Int32).toInt = 1 from by decide] at e5
     have r6 := rng32 L
     have k7 : (0 : Int32).toInt = 0 := by decide
     have r8 := rng32 ((fs pl.toNatClampNeg))
     have r9 := rng32 ((fs ((pl - (1 : Int32))).toNatClampNeg))
     have d0 : (0 : Int32).toInt < pl.toInt := Int32.lt_iff_toInt_lt.mp c0
     have d1 : pl.toInt < tl.toInt := Int32.lt_iff_toInt_lt.mp c1
     have d2 : ((fs pl.toNatClampNeg)).toInt = ((fs ((pl - (1 : Int32))).toNatClampNeg)).toInt := congrArg Int32.toInt c2
     omega
    obtain ⟨T50, h50, L50, X50, e50, N_50, K50, A50, st50⟩ := o_cp X49 hx hZ hown (o_m hw 94 rfl) (o_m hw 97 rfl) (o_m hw 95 rfl) (o_m hw 96 rfl) e49 Y45 Y45 rfl u1_50 u2_50 u3_50 u4_50 u5_50 N_25 gf1 (g := (o_f10 m 76 pp pl [(.int ((tl - pl) - (1 : Int32))), (.int pl), (.ref fr), (.int (pl + (1 : Int32))), (.ref fr)])) rfl (by rw [hml]; rfl) rfl rfl (hb hby o_d18_76) (o_b rfl) (o_b rfl)
    obtain ⟨f50, d_f50⟩ : ∃ z : Nat → Int32, z = (fun i => if pl.toNatClampNeg ≤ i ∧ i < pl.toNatClampNeg + (((tl - pl) - (1 : Int32))).toNatClampNeg then fs (((pl + (1 : Int32))).toNatClampNeg + (i - pl.toNatClampNeg)) else fs i) := ⟨_, rfl⟩
    replace A50 : o_IA Z h50 fr L f50 := A50.congr fun i _ => by rw [d_f50]; exact (apply_ite Value.int _ _ _).symm
    have Y51 := Y26.keep K50
    have Y52 := Y27.keep K50
    have Y53 := Y28.keep K50
    have Y54 := Y29.keep K50 (ninS ne5 nin0)
    have Y55 := Y30.keep K50 (ninS ne5 nin0)
    have Y56 := Y31.keep K50 (ninS ne5 nin0)
    have Y57 := Y32.keep K50 (ninS ne5 nin0)
    have Y58 := Y33.keep K50 (ninS ne5 nin0)
    have Y59 := Y34.keep K50 (ninS ne5 nin0)
    have Y60 := Y35.keep K50 (ninS ne5 nin0)
    have Y61 := Y36.keep K50 (ninS ne5 nin0)
    have Y62 := Y37.keep K50 (ninS ne5 nin0)
    have Y63 := Y38.keep K50 (ninS ne5 nin0)
    have Y64 := Y39.keep K50 (ninS ne5 nin0)
    have Y65 := Y40.keep K50 (ninS ne5 nin0)
    have Y66 := Y41.keep K50 (ninS ne5 nin0)
    have Y67 := Y42.keep K50 (ninS ne5 nin0)
    have Y68 := Y43.keep K50 (ninS ne6 nin0)
    have Y69 := A25.keep K50 (ninS ne14 nin0)
    have Y71 := Y46.keep K50 (ninS (Ne.symm ne15) nin0)
    refine o_q T50 (o_f10 m 79 pp pl []) st50 ?_
    refine o_q T50 (o_f10 m 80 pp pl [(.ref pp)]) (fun _ k => XS.aloadN X50.here hx rfl (hb hby o_d18_79) rfl rfl k) ?_
    refine o_q T50 (o_f10 m 81 pp pl [(.ref pp), (.ref pp)]) (fun _ k => XS.dup X50.here hx rfl (hb hby o_d18_80) rfl rfl k) ?_
    obtain ⟨T72, X72, e72, st72⟩ := getF X50 hx hZ hown (host := "") (Or.inl (o_m hw 48 rfl)) Via.refl e50 Y58 (g := (o_f10 m 81 pp pl [(.ref pp), (.ref pp)])) rfl rfl (hb hby o_d18_81)
    refine o_q T72 (o_f10 m 84 pp pl [(.int tl), (.ref pp)]) st72 ?_
    refine o_q T72 (o_f10 m 85 pp pl [(.int (1 : Int32)), (.int tl), (.ref pp)]) (fun _ k => XS.iconst X72.here hx rfl (hb hby o_d18_84) k) ?_
    refine o_q T72 (o_f10 m 86 pp pl [(.int (tl - (1 : Int32))), (.ref pp)]) (fun _ k => XS.isub X72.here hx rfl (hb hby o_d18_85) rfl k) ?_
    obtain ⟨T73, h73, X73, e73, W73, st73⟩ := putF X72 hx hZ hown (host := "") (Or.inl (o_m hw 48 rfl)) Via.refl e72 Y58 Y51 (Or.inl (o_m hw 49 rfl)) (o_m hw 8 rfl) (ty := .int) (by decide) rfl rfl (g := (o_f10 m 86 pp pl [(.int (tl - (1 : Int32))), (.ref pp)])) rfl rfl (hb hby o_d18_86)
    have Fw73 := Y58.same W73
    have N_73 := Fr.snoc X73 N_50 gp1
    have Y74 := Y51.wr W73
    have Y75 := Y52.wr W73
    have Y76 := Y53.wr W73
    have Y77 := Y54.other W73 (o_sn (Or.inr (o_m hw 41 rfl)) (Or.inl (o_m hw 49 rfl)))
    have Y78 := Y55.other W73 (o_sn (Or.inl (o_m hw 44 rfl)) (Or.inl (o_m hw 49 rfl)))
    have Y79 := Y56.other W73 (o_sn (Or.inl (o_m hw 47 rfl)) (Or.inl (o_m hw 49 rfl)))
    have Y80 := Y57.other W73 (o_sn (Or.inl (o_m hw 93 rfl)) (Or.inl (o_m hw 49 rfl)))
    have Y82 := Y59.other W73 (o_sn (Or.inl (o_m hw 106 rfl)) (Or.inl (o_m hw 49 rfl)))
    have Y83 := Y60.other W73 (o_sn (Or.inr (o_m hw 26 rfl)) (Or.inl (o_m hw 49 rfl)))
    have Y84 := Y61.other W73 (o_sn (Or.inl (o_m hw 64 rfl)) (Or.inl (o_m hw 49 rfl)))
    have Y85 := Y62.other W73 (o_sn (Or.inl (o_m hw 39 rfl)) (Or.inl (o_m hw 49 rfl)))
    have Y86 := Y63.other W73 (o_sn (Or.inl (o_m hw 66 rfl)) (Or.inl (o_m hw 49 rfl)))
    have Y87 := Y64.other W73 (o_sn (Or.inl (o_m hw 78 rfl)) (Or.inl (o_m hw 49 rfl)))
    have Y88 := Y65.other W73 (o_sn (Or.inl (o_m hw 132 rfl)) (Or.inl (o_m hw 49 rfl)))
    have Y89 := Y66.other W73 (o_sn (Or.inl (o_m hw 166 rfl)) (Or.inl (o_m hw 49 rfl)))
    have Y90 := Y67.other W73 (o_sn (Or.inr (o_m hw 35 rfl)) (Or.inl (o_m hw 49 rfl)))
    have Y91 := Y68.other W73 (Or.inl (Ne.symm ne2))
    have Y92 := Y69.other W73 (Ne.symm ne3)
    have Y93 := A50.other W73 (Ne.symm ne5)
    have Y94 := Y71.other W73 (Ne.symm ne7)
    refine o_q T73 (o_f10 m 89 pp pl []) st73 ?_
    refine o_q T73 (o_f10 m 90 pp pl [(.ref pp)]) (fun _ k => XS.aloadN X73.here hx rfl (hb hby o_d18_89) rfl rfl k) ?_
    obtain ⟨T95, X95, e95, st95⟩ := getF X73 hx hZ hown (host := "") (Or.inl (o_m hw 25 rfl)) Via.refl e73 Y83 (g := (o_f10 m 90 pp pl [(.ref pp)])) rfl rfl (hb hby o_d18_90)
    refine o_q T95 (o_f10 m 93 pp pl [(.ref ru)]) st95 ?_
    refine o_q T95 (o_f10 m 94 pp pl [(.int pl), (.ref ru)]) (fun _ k => XS.iloadN X95.here hx rfl (hb hby o_d18_93) rfl k) ?_
    obtain ⟨v96, T96, L96, hQ96, X96, st96⟩ := o_callV X95 hx hZ e95 hown (o_m hw 148 rfl) (o_m hw 149 rfl) (o_m hw 151 rfl) (o_m hw 150 rfl) (by decide) (b := ru) Y75 (o_m hw 152 rfl) (o_m hw 18 rfl) (o_k24_4 l Z a0 hw ru pl h73 Y91) (g := (o_f10 m 94 pp pl [(.int pl), (.ref ru)])) rfl (by rw [hml]; rfl) rfl (argsL := [(.int pl)]) (rest := []) rfl (lenOf o_pd2 rfl) rfl (hb hby o_d18_94) (o_b rfl) (o_b rfl) (o_b rfl) (o_b rfl)
    obtain ⟨rfl, rfl, e96⟩ := hQ96
    rw [List.append_nil] at X96
    refine o_q T96 (o_f10 m 97 pp pl []) st96 ?_
    have hP97 : o_Pr Z n0 pp rc ru wa tm fr (tl - (1 : Int32)) la L ch gb f25 f50 rs h73 := ⟨Y74, Y75, Y76, Y77, Y78, Y79, Y80, Fw73, Y82, Y83, Y84, Y85, Y86, Y87, Y88, Y89, Y90, Y91, Y92, Y93, Y94, nt1, wl1, gp1, gt1, gf1, gr1, gu1⟩
    have q99 : 1 ≤ ((tl - (1 : Int32))).toInt := by
     have r1 := rng32 pl
     have k2 : (1 : Int32).toInt = 1 := by decide
     have e3 := c_iadd (pl) ((1 : Int32))
     have r3 := rng32 ((pl + (1 : Int32)))
     rw [show (1 : Int32).toInt = 1 from by decide] at e3
     have r4 := rng32 tl
     have e5 := c_isub (tl) (pl)
     have r5 := rng32 ((tl - pl))
     have e6 := c_isub ((tl - pl)) ((1 : Int32))
     have r6 := rng32 (((tl - pl) - (1 : Int32)))
     rw [show (1 : Int32).toInt = 1 from by decide] at e6
     have e7 := c_isub (tl) ((1 : Int32))
     have r7 := rng32 ((tl - (1 : Int32)))
     rw [show (1 : Int32).toInt = 1 from by decide] at e7
     have r8 := rng32 L
     have k9 : (0 : Int32).toInt = 0 := by decide
     have r10 := rng32 ((fs pl.toNatClampNeg))
     have r11 := rng32 ((fs ((pl - (1 : Int32))).toNatClampNeg))
     have d0 : (0 : Int32).toInt < pl.toInt := Int32.lt_iff_toInt_lt.mp c0
     have d1 : pl.toInt < tl.toInt := Int32.lt_iff_toInt_lt.mp c1
     have d2 : ((fs pl.toNatClampNeg)).toInt = ((fs ((pl - (1 : Int32))).toNatClampNeg)).toInt := congrArg Int32.toInt c2
     omega
    have q100 : ((tl - (1 : Int32))).toInt ≤ tl.toInt := by
     have r1 := rng32 pl
     have k2 : (1 : Int32).toInt = 1 := by decide
     have e3 := c_iadd (pl) ((1 : Int32))
     have r3 := rng32 ((pl + (1 : Int32)))
     rw [show (1 : Int32).toInt = 1 from by decide] at e3
     have r4 := rng32 tl
     have e5 := c_isub (tl) (pl)
     have r5 := rng32 ((tl - pl))
     have e6 := c_isub ((tl - pl)) ((1 : Int32))
     have r6 := rng32 (((tl - pl) - (1 : Int32)))
     rw [show (1 : Int32).toInt = 1 from by decide] at e6
     have e7 := c_isub (tl) ((1 : Int32))
     have r7 := rng32 ((tl - (1 : Int32)))
     rw [show (1 : Int32).toInt = 1 from by decide] at e7
     have r8 := rng32 L
     have k9 : (0 : Int32).toInt = 0 := by decide
     have r10 := rng32 ((fs pl.toNatClampNeg))
     have r11 := rng32 ((fs ((pl - (1 : Int32))).toNatClampNeg))
     have d0 : (0 : Int32).toInt < pl.toInt := Int32.lt_iff_toInt_lt.mp c0
     have d1 : pl.toInt < tl.toInt := Int32.lt_iff_toInt_lt.mp c1
     have d2 : ((fs pl.toNatClampNeg)).toInt = ((fs ((pl - (1 : Int32))).toNatClampNeg)).toInt := congrArg Int32.toInt c2
     omega
    have ma98 : ((pl + (1 : Int32))).toNatClampNeg = pl.toNatClampNeg + 1 := by
     have r1 := rng32 pl
     have k2 : (1 : Int32).toInt = 1 := by decide
     have e3 := c_iadd (pl) ((1 : Int32))
     have r3 := rng32 ((pl + (1 : Int32)))
     rw [show (1 : Int32).toInt = 1 from by decide] at e3
     have r4 := rng32 tl
     have e5 := c_isub (tl) (pl)
     have r5 := rng32 ((tl - pl))
     have e6 := c_isub ((tl - pl)) ((1 : Int32))
     have r6 := rng32 (((tl - pl) - (1 : Int32)))
     rw [show (1 : Int32).toInt = 1 from by decide] at e6
     have e7 := c_isub (tl) ((1 : Int32))
     have r7 := rng32 ((tl - (1 : Int32)))
     rw [show (1 : Int32).toInt = 1 from by decide] at e7
     have r8 := rng32 L
     have k9 : (0 : Int32).toInt = 0 := by decide
     have r10 := rng32 ((fs pl.toNatClampNeg))
     have r11 := rng32 ((fs ((pl - (1 : Int32))).toNatClampNeg))
     have d0 : (0 : Int32).toInt < pl.toInt := Int32.lt_iff_toInt_lt.mp c0
     have d1 : pl.toInt < tl.toInt := Int32.lt_iff_toInt_lt.mp c1
     have d2 : ((fs pl.toNatClampNeg)).toInt = ((fs ((pl - (1 : Int32))).toNatClampNeg)).toInt := congrArg Int32.toInt c2
     have n0 := o_nat (tl) (by omega)
     have n1 := o_nat (pl) (by omega)
     have n2 := o_nat ((pl + (1 : Int32))) (by omega)
     have n3 := o_nat (((tl - pl) - (1 : Int32))) (by omega)
     have n4 := o_nat ((tl - (1 : Int32))) (by omega)
     omega
    have mc98 : (((tl - pl) - (1 : Int32))).toNatClampNeg + pl.toNatClampNeg + 1 = tl.toNatClampNeg := by
     have r1 := rng32 pl
     have k2 : (1 : Int32).toInt = 1 := by decide
     have e3 := c_iadd (pl) ((1 : Int32))
     have r3 := rng32 ((pl + (1 : Int32)))
     rw [show (1 : Int32).toInt = 1 from by decide] at e3
     have r4 := rng32 tl
     have e5 := c_isub (tl) (pl)
     have r5 := rng32 ((tl - pl))
     have e6 := c_isub ((tl - pl)) ((1 : Int32))
     have r6 := rng32 (((tl - pl) - (1 : Int32)))
     rw [show (1 : Int32).toInt = 1 from by decide] at e6
     have e7 := c_isub (tl) ((1 : Int32))
     have r7 := rng32 ((tl - (1 : Int32)))
     rw [show (1 : Int32).toInt = 1 from by decide] at e7
     have r8 := rng32 L
     have k9 : (0 : Int32).toInt = 0 := by decide
     have r10 := rng32 ((fs pl.toNatClampNeg))
     have r11 := rng32 ((fs ((pl - (1 : Int32))).toNatClampNeg))
     have d0 : (0 : Int32).toInt < pl.toInt := Int32.lt_iff_toInt_lt.mp c0
     have d1 : pl.toInt < tl.toInt := Int32.lt_iff_toInt_lt.mp c1
     have d2 : ((fs pl.toNatClampNeg)).toInt = ((fs ((pl - (1 : Int32))).toNatClampNeg)).toInt := congrArg Int32.toInt c2
     have n0 := o_nat (tl) (by omega)
     have n1 := o_nat (pl) (by omega)
     have n2 := o_nat ((pl + (1 : Int32))) (by omega)
     have n3 := o_nat (((tl - pl) - (1 : Int32))) (by omega)
     have n4 := o_nat ((tl - (1 : Int32))) (by omega)
     omega
    have md98 : ((tl - (1 : Int32))).toNatClampNeg = tl.toNatClampNeg - 1 := by
     have r1 := rng32 pl
     have k2 : (1 : Int32).toInt = 1 := by decide
     have e3 := c_iadd (pl) ((1 : Int32))
     have r3 := rng32 ((pl + (1 : Int32)))
     rw [show (1 : Int32).toInt = 1 from by decide] at e3
     have r4 := rng32 tl
     have e5 := c_isub (tl) (pl)
     have r5 := rng32 ((tl - pl))
     have e6 := c_isub ((tl - pl)) ((1 : Int32))
     have r6 := rng32 (((tl - pl) - (1 : Int32)))
     rw [show (1 : Int32).toInt = 1 from by decide] at e6
     have e7 := c_isub (tl) ((1 : Int32))
     have r7 := rng32 ((tl - (1 : Int32)))
     rw [show (1 : Int32).toInt = 1 from by decide] at e7
     have r8 := rng32 L
     have k9 : (0 : Int32).toInt = 0 := by decide
     have r10 := rng32 ((fs pl.toNatClampNeg))
     have r11 := rng32 ((fs ((pl - (1 : Int32))).toNatClampNeg))
     have d0 : (0 : Int32).toInt < pl.toInt := Int32.lt_iff_toInt_lt.mp c0
     have d1 : pl.toInt < tl.toInt := Int32.lt_iff_toInt_lt.mp c1
     have d2 : ((fs pl.toNatClampNeg)).toInt = ((fs ((pl - (1 : Int32))).toNatClampNeg)).toInt := congrArg Int32.toInt c2
     have n0 := o_nat (tl) (by omega)
     have n1 := o_nat (pl) (by omega)
     have n2 := o_nat ((pl + (1 : Int32))) (by omega)
     have n3 := o_nat (((tl - pl) - (1 : Int32))) (by omega)
     have n4 := o_nat ((tl - (1 : Int32))) (by omega)
     omega
    have me98 : pl.toNatClampNeg < tl.toNatClampNeg := by
     have r1 := rng32 pl
     have k2 : (1 : Int32).toInt = 1 := by decide
     have e3 := c_iadd (pl) ((1 : Int32))
     have r3 := rng32 ((pl + (1 : Int32)))
     rw [show (1 : Int32).toInt = 1 from by decide] at e3
     have r4 := rng32 tl
     have e5 := c_isub (tl) (pl)
     have r5 := rng32 ((tl - pl))
     have e6 := c_isub ((tl - pl)) ((1 : Int32))
     have r6 := rng32 (((tl - pl) - (1 : Int32)))
     rw [show (1 : Int32).toInt = 1 from by decide] at e6
     have e7 := c_isub (tl) ((1 : Int32))
     have r7 := rng32 ((tl - (1 : Int32)))
     rw [show (1 : Int32).toInt = 1 from by decide] at e7
     have r8 := rng32 L
     have k9 : (0 : Int32).toInt = 0 := by decide
     have r10 := rng32 ((fs pl.toNatClampNeg))
     have r11 := rng32 ((fs ((pl - (1 : Int32))).toNatClampNeg))
     have d0 : (0 : Int32).toInt < pl.toInt := Int32.lt_iff_toInt_lt.mp c0
     have d1 : pl.toInt < tl.toInt := Int32.lt_iff_toInt_lt.mp c1
     have d2 : ((fs pl.toNatClampNeg)).toInt = ((fs ((pl - (1 : Int32))).toNatClampNeg)).toInt := congrArg Int32.toInt c2
     have n0 := o_nat (tl) (by omega)
     have n1 := o_nat (pl) (by omega)
     have n2 := o_nat ((pl + (1 : Int32))) (by omega)
     have n3 := o_nat (((tl - pl) - (1 : Int32))) (by omega)
     have n4 := o_nat ((tl - (1 : Int32))) (by omega)
     omega
    have mf98 : 1 ≤ pl.toNatClampNeg := by
     have r1 := rng32 pl
     have k2 : (1 : Int32).toInt = 1 := by decide
     have e3 := c_iadd (pl) ((1 : Int32))
     have r3 := rng32 ((pl + (1 : Int32)))
     rw [show (1 : Int32).toInt = 1 from by decide] at e3
     have r4 := rng32 tl
     have e5 := c_isub (tl) (pl)
     have r5 := rng32 ((tl - pl))
     have e6 := c_isub ((tl - pl)) ((1 : Int32))
     have r6 := rng32 (((tl - pl) - (1 : Int32)))
     rw [show (1 : Int32).toInt = 1 from by decide] at e6
     have e7 := c_isub (tl) ((1 : Int32))
     have r7 := rng32 ((tl - (1 : Int32)))
     rw [show (1 : Int32).toInt = 1 from by decide] at e7
     have r8 := rng32 L
     have k9 : (0 : Int32).toInt = 0 := by decide
     have r10 := rng32 ((fs pl.toNatClampNeg))
     have r11 := rng32 ((fs ((pl - (1 : Int32))).toNatClampNeg))
     have d0 : (0 : Int32).toInt < pl.toInt := Int32.lt_iff_toInt_lt.mp c0
     have d1 : pl.toInt < tl.toInt := Int32.lt_iff_toInt_lt.mp c1
     have d2 : ((fs pl.toNatClampNeg)).toInt = ((fs ((pl - (1 : Int32))).toNatClampNeg)).toInt := congrArg Int32.toInt c2
     have n0 := o_nat (tl) (by omega)
     have n1 := o_nat (pl) (by omega)
     have n2 := o_nat ((pl + (1 : Int32))) (by omega)
     have n3 := o_nat (((tl - pl) - (1 : Int32))) (by omega)
     have n4 := o_nat ((tl - (1 : Int32))) (by omega)
     omega
    have mg98 : ((pl - (1 : Int32))).toNatClampNeg = pl.toNatClampNeg - 1 := by
     have r1 := rng32 pl
     have k2 : (1 : Int32).toInt = 1 := by decide
     have e3 := c_iadd (pl) ((1 : Int32))
     have r3 := rng32 ((pl + (1 : Int32)))
     rw [show (1 : Int32).toInt = 1 from by decide] at e3
     have r4 := rng32 tl
     have e5 := c_isub (tl) (pl)
     have r5 := rng32 ((tl - pl))
     have e6 := c_isub ((tl - pl)) ((1 : Int32))
     have r6 := rng32 (((tl - pl) - (1 : Int32)))
     rw [show (1 : Int32).toInt = 1 from by decide] at e6
     have e7 := c_isub (tl) ((1 : Int32))
     have r7 := rng32 ((tl - (1 : Int32)))
     rw [show (1 : Int32).toInt = 1 from by decide] at e7
     have r8 := rng32 L
     have e9 := c_isub (pl) ((1 : Int32))
     have r9 := rng32 ((pl - (1 : Int32)))
     rw [show (1 : Int32).toInt = 1 from by decide] at e9
     have k10 : (0 : Int32).toInt = 0 := by decide
     have r11 := rng32 ((fs pl.toNatClampNeg))
     have r12 := rng32 ((fs ((pl - (1 : Int32))).toNatClampNeg))
     have d0 : (0 : Int32).toInt < pl.toInt := Int32.lt_iff_toInt_lt.mp c0
     have d1 : pl.toInt < tl.toInt := Int32.lt_iff_toInt_lt.mp c1
     have d2 : ((fs pl.toNatClampNeg)).toInt = ((fs ((pl - (1 : Int32))).toNatClampNeg)).toInt := congrArg Int32.toInt c2
     have n0 := o_nat (pl) (by omega)
     have n1 := o_nat ((pl - (1 : Int32))) (by omega)
     omega
    have F98 : ∀ i, f50 i = if pl.toNatClampNeg ≤ i ∧ i + 1 < tl.toNatClampNeg then fs (i + 1) else fs i := by
     intro i
     rw [d_f50]
     dsimp only
     rw [ma98]
     by_cases z2 : pl.toNatClampNeg ≤ i ∧ i + 1 < tl.toNatClampNeg
     ·rw [if_pos z2, if_pos (by omega), show pl.toNatClampNeg + 1 + (i - pl.toNatClampNeg) = i + 1 by omega]
     ·rw [if_neg z2, if_neg (by omega)]
    have G98 : ∀ i, f25 i = if pl.toNatClampNeg ≤ i ∧ i + 1 < tl.toNatClampNeg then xs (i + 1) else xs i := by
     intro i
     rw [d_f25]
     dsimp only
     rw [ma98]
     by_cases z2 : pl.toNatClampNeg ≤ i ∧ i + 1 < tl.toNatClampNeg
     ·rw [if_pos z2, if_pos (by omega), show pl.toNatClampNeg + 1 + (i - pl.toNatClampNeg) = i + 1 by omega]
     ·rw [if_neg z2, if_neg (by omega)]
    obtain ⟨P98, X98, Y98⟩ := o_del (A := pl.toNatClampNeg) (TL := tl.toNatClampNeg) mf98 me98 (by rw [← mg98]; exact c2) F98 G98
    refine o_retV X96 hx hlk hret (hb hby o_d18_97) ?_ (o_b rfl) (o_b rfl)
    rw [e96]
    exact ⟨(tl - (1 : Int32)), f25, f50, rfl, N_73, hP97, q99, q100, (by rw [md98]; exact P98), X98, (by rw [md98]; exact Y98)⟩
   ·refine o_q T20 (o_f10 m 97 pp pl []) (fun _ k => XS.icmpYes X20.here hx rfl (pc0 := 30) (pc' := 97) rfl (hb hby o_d18_30) rfl (feq c2).2 (by decide) (by decide) k) ?_
    have hP101 : o_Pr Z n0 pp rc ru wa tm fr tl la L ch gb xs fs rs h0 := ⟨Ep1, Er1, Ew1, F1_cpus, F1_times, F1_free, F1_head, F1_tail, F1_lastAt, F1_runs, F1_firstKnown, F1_watcher, F1_watchedAs, F1_changes, F1_merged, F1_gaveBack, F1_recent, Fn1, At1, Af1, Ar1, nt1, wl1, gp1, gt1, gf1, gr1, gu1⟩
    have q102 : tl.toInt ≤ tl.toInt := by
     have k1 : (0 : Int32).toInt = 0 := by decide
     have r2 := rng32 pl
     have r3 := rng32 tl
     have r4 := rng32 ((fs pl.toNatClampNeg))
     have r5 := rng32 ((fs ((pl - (1 : Int32))).toNatClampNeg))
     have d0 : (0 : Int32).toInt < pl.toInt := Int32.lt_iff_toInt_lt.mp c0
     have d1 : pl.toInt < tl.toInt := Int32.lt_iff_toInt_lt.mp c1
     have d2 : ¬ (((fs pl.toNatClampNeg)).toInt = ((fs ((pl - (1 : Int32))).toNatClampNeg)).toInt) := fun q => c2 (Int32.toInt_inj.mp q)
     omega
    refine o_retV X20 hx hlk hret (hb hby o_d18_97) ?_ (o_b rfl) (o_b rfl)
    rw [e20]
    exact ⟨tl, xs, fs, rfl, Fr.nil _, hP101, i1, q102, (fun i hi => ⟨i, hi, rfl⟩), rfl, (fun q _ => ⟨q, rfl, fun i hi => ⟨i, hi, rfl⟩⟩)⟩
  ·refine o_q T17 (o_f10 m 97 pp pl []) (fun _ k => XS.icmpYes X17.here hx rfl (pc0 := 13) (pc' := 97) rfl (hb hby o_d18_13) rfl (flt c1).2.1 (by decide) (by decide) k) ?_
   have hP103 : o_Pr Z n0 pp rc ru wa tm fr tl la L ch gb xs fs rs h0 := ⟨Ep1, Er1, Ew1, F1_cpus, F1_times, F1_free, F1_head, F1_tail, F1_lastAt, F1_runs, F1_firstKnown, F1_watcher, F1_watchedAs, F1_changes, F1_merged, F1_gaveBack, F1_recent, Fn1, At1, Af1, Ar1, nt1, wl1, gp1, gt1, gf1, gr1, gu1⟩
   have q104 : tl.toInt ≤ tl.toInt := by
    have k1 : (0 : Int32).toInt = 0 := by decide
    have r2 := rng32 pl
    have r3 := rng32 tl
    have d0 : (0 : Int32).toInt < pl.toInt := Int32.lt_iff_toInt_lt.mp c0
    have d1 : ¬ (pl.toInt < tl.toInt) := mt Int32.lt_iff_toInt_lt.mpr c1
    omega
   refine o_retV X17 hx hlk hret (hb hby o_d18_97) ?_ (o_b rfl) (o_b rfl)
   rw [e17]
   exact ⟨tl, xs, fs, rfl, Fr.nil _, hP103, i1, q104, (fun i hi => ⟨i, hi, rfl⟩), rfl, (fun q _ => ⟨q, rfl, fun i hi => ⟨i, hi, rfl⟩⟩)⟩
 ·refine o_q T16 (o_f10 m 97 pp pl []) (fun _ k => XS.icmpYes X16.here hx rfl (pc0 := 5) (pc' := 97) rfl (hb hby o_d18_5) rfl (flt c0).2.2.2 (by decide) (by decide) k) ?_
  have hP105 : o_Pr Z n0 pp rc ru wa tm fr tl la L ch gb xs fs rs h0 := ⟨Ep1, Er1, Ew1, F1_cpus, F1_times, F1_free, F1_head, F1_tail, F1_lastAt, F1_runs, F1_firstKnown, F1_watcher, F1_watchedAs, F1_changes, F1_merged, F1_gaveBack, F1_recent, Fn1, At1, Af1, Ar1, nt1, wl1, gp1, gt1, gf1, gr1, gu1⟩
  have q106 : tl.toInt ≤ tl.toInt := by
   have k1 : (0 : Int32).toInt = 0 := by decide
   have r2 := rng32 pl
   have d0 : ¬ ((0 : Int32).toInt < pl.toInt) := mt Int32.lt_iff_toInt_lt.mpr c0
   omega
  refine o_retV X16 hx hlk hret (hb hby o_d18_97) ?_ (o_b rfl) (o_b rfl)
  rw [e16]
  exact ⟨tl, xs, fs, rfl, Fr.nil _, hP105, i1, q106, (fun i hi => ⟨i, hi, rfl⟩), rfl, (fun q _ => ⟨q, rfl, fun i hi => ⟨i, hi, rfl⟩⟩)⟩
theorem o_d10_0 : decode o_y8 0 = .ok (.iload_n 1, 1) := by decide +kernel
theorem o_d10_1 : decode o_y8 1 = .ok (.aload_n 0, 1) := by decide +kernel
theorem o_d10_2 : decode o_y8 2 = .ok (.getfield 46, 3) := by decide +kernel
theorem o_d10_5 : decode o_y8 5 = .ok (.arraylength, 1) := by decide +kernel
theorem o_d10_6 : decode o_y8 6 = .ok (.if_icmp .gt 5, 3) := by decide +kernel
theorem o_d10_9 : decode o_y8 9 = .ok (.iconst 0, 1) := by decide +kernel
theorem o_d10_10 : decode o_y8 10 = .ok (.ireturn, 1) := by decide +kernel
theorem o_pn10 : plainFor (⟨o_n1, "room", "(I)I"⟩ : MethodName) = true := plainFor_of_name (by first | (simp [plainName, overriddenIn]; done) | decide +kernel)
set_option maxRecDepth 65536 in
set_option maxHeartbeats 40000000 in
theorem o_room0 (l : Launch) (Z : State) (a0 : Array Value) (hw : ∀ d ∈ tables_1, d.before a0 Z = true) (n0 : Nat) (pp rc ru wa tm fr : Addr) (tl la L : Int32) (ch gb : Int64) (xs : Nat → Int64) (fs : Nat → Int32) (rs : Nat → Int64) (len : Int32) (h0 : Heap) (hP : o_Pr Z n0 pp rc ru wa tm fr tl la L ch gb xs fs rs h0) (r1 : len.toInt ≤ L.toInt) :
  o_C l (⟨o_n1, "room", "(I)I"⟩ : MethodName) o_y8 6 (some .int) (o_R 0 0 0 0) Z h0 #[(.ref pp), (.int len)] (o_P (some (.int (0 : Int32))) h0) := by
 refine o_body o_pn10 ?_
 intro p e s m below meth c s₁ hx hby hml hZ hown hnm hret hlk X0 e0
 refine o_cast (f' := (o_f11 m 0 pp len [])) (by first | (simp [entryFrame, mkF, argsToLocals, Value.category, maxLocals]; done) | rfl) ?_
 obtain ⟨Ep1, Er1, Ew1, F1_cpus, F1_times, F1_free, F1_head, F1_tail, F1_lastAt, F1_runs, F1_firstKnown, F1_watcher, F1_watchedAs, F1_changes, F1_merged, F1_gaveBack, F1_recent, Fn1, At1, Af1, Ar1, nt1, wl1, gp1, gt1, gf1, gr1, gu1⟩ := hP
 have ne2 : o_ne pp ru := Ep1.ne Er1 (by decide)
 have ne3 : o_ne pp tm := At1.neExa Ep1 (o_m hw 8 rfl)
 have ne4 : o_ne ru tm := At1.neExa Er1 (o_m hw 17 rfl)
 have ne5 : o_ne pp fr := Af1.neExa Ep1 (o_m hw 8 rfl)
 have ne6 : o_ne ru fr := Af1.neExa Er1 (o_m hw 17 rfl)
 have ne7 : o_ne pp rc := Ar1.neExa Ep1 (o_m hw 8 rfl)
 have ne8 : o_ne ru rc := Ar1.neExa Er1 (o_m hw 17 rfl)
 have ne9 : o_ne wa pp := Nat.ne_of_lt (Nat.lt_of_lt_of_le wl1 gp1)
 have ne10 : o_ne wa tm := Nat.ne_of_lt (Nat.lt_of_lt_of_le wl1 gt1)
 have ne11 : o_ne wa fr := Nat.ne_of_lt (Nat.lt_of_lt_of_le wl1 gf1)
 have ne12 : o_ne wa rc := Nat.ne_of_lt (Nat.lt_of_lt_of_le wl1 gr1)
 have ne13 : o_ne wa ru := Nat.ne_of_lt (Nat.lt_of_lt_of_le wl1 gu1)
 have ne14 : o_ne tm fr := At1.ne Af1 (by intro q; cases q)
 have ne15 : o_ne fr rc := Af1.ne Ar1 (by intro q; cases q)
 refine o_q s₁ (o_f11 m 1 pp len [(.int len)]) (fun _ k => XS.iloadN X0.here hx rfl (hb hby o_d10_0) rfl k) ?_
 refine o_q s₁ (o_f11 m 2 pp len [(.ref pp), (.int len)]) (fun _ k => XS.aloadN X0.here hx rfl (hb hby o_d10_1) rfl rfl k) ?_
 obtain ⟨T16, X16, e16, st16⟩ := getF X0 hx hZ hown (host := "") (Or.inl (o_m hw 43 rfl)) Via.refl e0 F1_times (g := (o_f11 m 2 pp len [(.ref pp), (.int len)])) rfl rfl (hb hby o_d10_2)
 refine o_q T16 (o_f11 m 5 pp len [(.ref tm), (.int len)]) st16 ?_
 refine o_q T16 (o_f11 m 6 pp len [(.int L), (.int len)]) (fun _ k => o_len X16 hx hZ e16 At1 (g := (o_f11 m 5 pp len [(.ref tm), (.int len)])) rfl rfl (hb hby o_d10_5) _ k) ?_
 refine o_q T16 (o_f11 m 9 pp len []) (fun _ k => XS.icmpNo X16.here hx rfl (hb hby o_d10_6) rfl (flt (mt Int32.lt_iff_toInt_lt.mp (Int.not_lt.mpr r1))).2.2.1 k) ?_
 refine o_q T16 (o_f11 m 10 pp len [(.int (0 : Int32))]) (fun _ k => XS.iconst X16.here hx rfl (hb hby o_d10_9) k) ?_
 exact o_retI X16 hx hlk hret (hb hby o_d10_10) ⟨rfl, rfl, e16⟩ (by decide) (by decide)
theorem o_d23_0 : decode o_y9 0 = .ok (.aload_n 0, 1) := by decide +kernel
theorem o_d23_1 : decode o_y9 1 = .ok (.aconst_null, 1) := by decide +kernel
theorem o_d23_2 : decode o_y9 2 = .ok (.putfield 15, 3) := by decide +kernel
theorem o_d23_5 : decode o_y9 5 = .ok (.return_, 1) := by decide +kernel
theorem o_pn23 : plainFor (⟨o_n3, "moved", "()V"⟩ : MethodName) = true := plainFor_of_name (by first | (simp [plainName, overriddenIn]; done) | decide +kernel)
set_option maxRecDepth 65536 in
set_option maxHeartbeats 40000000 in
theorem o_moved (l : Launch) (Z : State) (a0 : Array Value) (hw : ∀ d ∈ tables_1, d.before a0 Z = true) (n0 : Nat) (pp rc ru wa tm fr : Addr) (tl la L : Int32) (ch gb : Int64) (xs : Nat → Int64) (fs : Nat → Int32) (rs : Nat → Int64) (h0 : Heap) (hP : o_Pr Z n0 pp rc ru wa tm fr tl la L ch gb xs fs rs h0) :
  o_C l (⟨o_n3, "moved", "()V"⟩ : MethodName) o_y9 1 none (o_R 0 0 0 0) Z h0 #[(.ref ru)] (fun v h Ls => v = none ∧ Fr n0 Ls ∧ o_Pr Z n0 pp rc ru wa tm fr tl la L ch gb xs fs rs h) := by
 refine o_body o_pn23 ?_
 intro p e s m below meth c s₁ hx hby hml hZ hown hnm hret hlk X0 e0
 refine o_cast (f' := (o_f12 m 0 ru [])) (by first | (simp [entryFrame, mkF, argsToLocals, Value.category, maxLocals]; done) | rfl) ?_
 obtain ⟨Ep1, Er1, Ew1, F1_cpus, F1_times, F1_free, F1_head, F1_tail, F1_lastAt, F1_runs, F1_firstKnown, F1_watcher, F1_watchedAs, F1_changes, F1_merged, F1_gaveBack, F1_recent, Fn1, At1, Af1, Ar1, nt1, wl1, gp1, gt1, gf1, gr1, gu1⟩ := hP
 have ne2 : o_ne pp ru := Ep1.ne Er1 (by decide)
 have ne3 : o_ne pp tm := At1.neExa Ep1 (o_m hw 8 rfl)
 have ne4 : o_ne ru tm := At1.neExa Er1 (o_m hw 17 rfl)
 have ne5 : o_ne pp fr := Af1.neExa Ep1 (o_m hw 8 rfl)
 have ne6 : o_ne ru fr := Af1.neExa Er1 (o_m hw 17 rfl)
 have ne7 : o_ne pp rc := Ar1.neExa Ep1 (o_m hw 8 rfl)
 have ne8 : o_ne ru rc := Ar1.neExa Er1 (o_m hw 17 rfl)
 have ne9 : o_ne wa pp := Nat.ne_of_lt (Nat.lt_of_lt_of_le wl1 gp1)
 have ne10 : o_ne wa tm := Nat.ne_of_lt (Nat.lt_of_lt_of_le wl1 gt1)
 have ne11 : o_ne wa fr := Nat.ne_of_lt (Nat.lt_of_lt_of_le wl1 gf1)
 have ne12 : o_ne wa rc := Nat.ne_of_lt (Nat.lt_of_lt_of_le wl1 gr1)
 have ne13 : o_ne wa ru := Nat.ne_of_lt (Nat.lt_of_lt_of_le wl1 gu1)
 have ne14 : o_ne tm fr := At1.ne Af1 (by intro q; cases q)
 have ne15 : o_ne fr rc := Af1.ne Ar1 (by intro q; cases q)
 refine o_q s₁ (o_f12 m 1 ru [(.ref ru)]) (fun _ k => XS.aloadN X0.here hx rfl (hb hby o_d23_0) rfl rfl k) ?_
 refine o_q s₁ (o_f12 m 2 ru [.null, (.ref ru)]) (fun _ k => XS.aconstNull X0.here hx rfl (hb hby o_d23_1) k) ?_
 obtain ⟨T16, h16, X16, e16, W16, st16⟩ := putF X0 hx hZ hown (host := "") (Or.inl (o_m hw 103 rfl)) Via.refl e0 Fn1 Er1 (Or.inl (o_m hw 104 rfl)) (o_m hw 17 rfl) (ty := (.array (.array .long))) (by decide) rfl rfl (g := (o_f12 m 2 ru [.null, (.ref ru)])) rfl rfl (hb hby o_d23_2)
 have Fw16 := Fn1.same W16
 have N_16 := Fr.snoc X16 (Fr.nil _) gu1
 have Y17 := Ep1.wr W16
 have Y18 := Er1.wr W16
 have Y19 := Ew1.wr W16
 have Y20 := F1_cpus.other W16 (Or.inl ne2)
 have Y21 := F1_times.other W16 (Or.inl ne2)
 have Y22 := F1_free.other W16 (Or.inl ne2)
 have Y23 := F1_head.other W16 (Or.inl ne2)
 have Y24 := F1_tail.other W16 (Or.inl ne2)
 have Y25 := F1_lastAt.other W16 (Or.inl ne2)
 have Y26 := F1_runs.other W16 (Or.inl ne2)
 have Y27 := F1_firstKnown.other W16 (Or.inl ne2)
 have Y28 := F1_watcher.other W16 (Or.inl ne2)
 have Y29 := F1_watchedAs.other W16 (Or.inl ne2)
 have Y30 := F1_changes.other W16 (Or.inl ne2)
 have Y31 := F1_merged.other W16 (Or.inl ne2)
 have Y32 := F1_gaveBack.other W16 (Or.inl ne2)
 have Y33 := F1_recent.other W16 (Or.inl ne2)
 have Y35 := At1.other W16 (Ne.symm ne4)
 have Y36 := Af1.other W16 (Ne.symm ne6)
 have Y37 := Ar1.other W16 (Ne.symm ne8)
 refine o_q T16 (o_f12 m 5 ru []) st16 ?_
 have hP38 : o_Pr Z n0 pp rc ru wa tm fr tl la L ch gb xs fs rs h16 := ⟨Y17, Y18, Y19, Y20, Y21, Y22, Y23, Y24, Y25, Y26, Y27, Y28, Y29, Y30, Y31, Y32, Y33, Fw16, Y35, Y36, Y37, nt1, wl1, gp1, gt1, gf1, gr1, gu1⟩
 refine o_retV X16 hx hlk hret (hb hby o_d23_5) ?_ (o_b rfl) (o_b rfl)
 rw [e16]
 exact ⟨rfl, N_16, hP38⟩
theorem o_d8_0 : decode o_y10 0 = .ok (.aload_n 0, 1) := by decide +kernel
theorem o_d8_1 : decode o_y10 1 = .ok (.iconst 0, 1) := by decide +kernel
theorem o_d8_2 : decode o_y10 2 = .ok (.putfield 103, 3) := by decide +kernel
theorem o_d8_5 : decode o_y10 5 = .ok (.aload_n 0, 1) := by decide +kernel
theorem o_d8_6 : decode o_y10 6 = .ok (.getfield 37, 3) := by decide +kernel
theorem o_d8_9 : decode o_y10 9 = .ok (.aload_n 0, 1) := by decide +kernel
theorem o_d8_10 : decode o_y10 10 = .ok (.getfield 168, 3) := by decide +kernel
theorem o_d8_13 : decode o_y10 13 = .ok (.invokeinterface 171 2, 5) := by decide +kernel
theorem o_d9_0 : decode o_y11 0 = .ok (.return_, 1) := by decide +kernel
theorem o_pn9 : plainFor (⟨o_n2, "booked", "(I)V"⟩ : MethodName) = true := plainFor_of_name (by first | (simp [plainName, overriddenIn]; done) | decide +kernel)
set_option maxRecDepth 65536 in
set_option maxHeartbeats 40000000 in
theorem o_k9_5 (l : Launch) (Z : State) (a0 : Array Value) (hw : ∀ d ∈ tables_1, d.before a0 Z = true) (p0 : Addr) (h0 : Heap)  :
  o_C l (⟨o_n2, "booked", "(I)V"⟩ : MethodName) o_y11 2 none (o_R 0 0 0 0) Z h0 #[(.ref p0), (.int (0 : Int32))] (o_P none h0) := by
 refine o_body o_pn9 ?_
 intro p e s m below meth c s₁ hx hby hml hZ hown hnm hret hlk X0 e0
 refine o_cast (f' := (o_f10 m 0 p0 (0 : Int32) [])) (by first | (simp [entryFrame, mkF, argsToLocals, Value.category, maxLocals]; done) | rfl) ?_
 exact o_retV X0 hx hlk hret (hb hby o_d9_0) ⟨rfl, rfl, e0⟩ (by decide) (by decide)
theorem o_d8_18 : decode o_y10 18 = .ok (.return_, 1) := by decide +kernel
theorem o_pn8 : plainFor (⟨o_n1, "countsChanged", "()V"⟩ : MethodName) = true := plainFor_of_name (by first | (simp [plainName, overriddenIn]; done) | decide +kernel)
set_option maxRecDepth 65536 in
set_option maxHeartbeats 40000000 in
theorem o_counts (l : Launch) (Z : State) (a0 : Array Value) (hw : ∀ d ∈ tables_1, d.before a0 Z = true) (n0 : Nat) (pp rc ru wa tm fr : Addr) (tl la L : Int32) (ch gb : Int64) (xs : Nat → Int64) (fs : Nat → Int32) (rs : Nat → Int64) (h0 : Heap) (hP : o_Pr Z n0 pp rc ru wa tm fr tl la L ch gb xs fs rs h0) :
  o_C l (⟨o_n1, "countsChanged", "()V"⟩ : MethodName) o_y10 1 none (o_R 1 0 0 13) Z h0 #[(.ref pp)] (fun v h Ls => v = none ∧ Fr n0 Ls ∧ o_Pr Z n0 pp rc ru wa tm fr tl la L ch gb xs fs rs h) := by
 refine o_body o_pn8 ?_
 intro p e s m below meth c s₁ hx hby hml hZ hown hnm hret hlk X0 e0
 refine o_cast (f' := (o_f12 m 0 pp [])) (by first | (simp [entryFrame, mkF, argsToLocals, Value.category, maxLocals]; done) | rfl) ?_
 obtain ⟨Ep1, Er1, Ew1, F1_cpus, F1_times, F1_free, F1_head, F1_tail, F1_lastAt, F1_runs, F1_firstKnown, F1_watcher, F1_watchedAs, F1_changes, F1_merged, F1_gaveBack, F1_recent, Fn1, At1, Af1, Ar1, nt1, wl1, gp1, gt1, gf1, gr1, gu1⟩ := hP
 have ne2 : o_ne pp ru := Ep1.ne Er1 (by decide)
 have ne3 : o_ne pp tm := At1.neExa Ep1 (o_m hw 8 rfl)
 have ne4 : o_ne ru tm := At1.neExa Er1 (o_m hw 17 rfl)
 have ne5 : o_ne pp fr := Af1.neExa Ep1 (o_m hw 8 rfl)
 have ne6 : o_ne ru fr := Af1.neExa Er1 (o_m hw 17 rfl)
 have ne7 : o_ne pp rc := Ar1.neExa Ep1 (o_m hw 8 rfl)
 have ne8 : o_ne ru rc := Ar1.neExa Er1 (o_m hw 17 rfl)
 have ne9 : o_ne wa pp := Nat.ne_of_lt (Nat.lt_of_lt_of_le wl1 gp1)
 have ne10 : o_ne wa tm := Nat.ne_of_lt (Nat.lt_of_lt_of_le wl1 gt1)
 have ne11 : o_ne wa fr := Nat.ne_of_lt (Nat.lt_of_lt_of_le wl1 gf1)
 have ne12 : o_ne wa rc := Nat.ne_of_lt (Nat.lt_of_lt_of_le wl1 gr1)
 have ne13 : o_ne wa ru := Nat.ne_of_lt (Nat.lt_of_lt_of_le wl1 gu1)
 have ne14 : o_ne tm fr := At1.ne Af1 (by intro q; cases q)
 have ne15 : o_ne fr rc := Af1.ne Ar1 (by intro q; cases q)
 refine o_q s₁ (o_f12 m 1 pp [(.ref pp)]) (fun _ k => XS.aloadN X0.here hx rfl (hb hby o_d8_0) rfl rfl k) ?_
 refine o_q s₁ (o_f12 m 2 pp [(.int (0 : Int32)), (.ref pp)]) (fun _ k => XS.iconst X0.here hx rfl (hb hby o_d8_1) k) ?_
 obtain ⟨T16, h16, X16, e16, W16, st16⟩ := putFN X0 hx hZ hown (o_m hw 63 rfl) Via.refl e0 F1_firstKnown Ep1 (Or.inl (o_m hw 64 rfl)) (o_m hw 8 rfl) (ty := .boolean) (v' := (.int (0 : Int32))) (by decide) rfl rfl (g := (o_f12 m 2 pp [(.int (0 : Int32)), (.ref pp)])) rfl rfl (hb hby o_d8_2)
 have Fw16 := F1_firstKnown.same W16
 have N_16 := Fr.snoc X16 (Fr.nil _) gp1
 have Y17 := Ep1.wr W16
 have Y18 := Er1.wr W16
 have Y19 := Ew1.wr W16
 have Y20 := F1_cpus.other W16 (o_sn (Or.inr (o_m hw 41 rfl)) (Or.inl (o_m hw 64 rfl)))
 have Y21 := F1_times.other W16 (o_sn (Or.inl (o_m hw 44 rfl)) (Or.inl (o_m hw 64 rfl)))
 have Y22 := F1_free.other W16 (o_sn (Or.inl (o_m hw 47 rfl)) (Or.inl (o_m hw 64 rfl)))
 have Y23 := F1_head.other W16 (o_sn (Or.inl (o_m hw 93 rfl)) (Or.inl (o_m hw 64 rfl)))
 have Y24 := F1_tail.other W16 (o_sn (Or.inl (o_m hw 49 rfl)) (Or.inl (o_m hw 64 rfl)))
 have Y25 := F1_lastAt.other W16 (o_sn (Or.inl (o_m hw 106 rfl)) (Or.inl (o_m hw 64 rfl)))
 have Y26 := F1_runs.other W16 (o_sn (Or.inr (o_m hw 26 rfl)) (Or.inl (o_m hw 64 rfl)))
 have Y28 := F1_watcher.other W16 (o_sn (Or.inl (o_m hw 39 rfl)) (Or.inl (o_m hw 64 rfl)))
 have Y29 := F1_watchedAs.other W16 (o_sn (Or.inl (o_m hw 66 rfl)) (Or.inl (o_m hw 64 rfl)))
 have Y30 := F1_changes.other W16 (o_sn (Or.inl (o_m hw 78 rfl)) (Or.inl (o_m hw 64 rfl)))
 have Y31 := F1_merged.other W16 (o_sn (Or.inl (o_m hw 132 rfl)) (Or.inl (o_m hw 64 rfl)))
 have Y32 := F1_gaveBack.other W16 (o_sn (Or.inl (o_m hw 166 rfl)) (Or.inl (o_m hw 64 rfl)))
 have Y33 := F1_recent.other W16 (o_sn (Or.inr (o_m hw 35 rfl)) (Or.inl (o_m hw 64 rfl)))
 have Y34 := Fn1.other W16 (Or.inl (Ne.symm ne2))
 have Y35 := At1.other W16 (Ne.symm ne3)
 have Y36 := Af1.other W16 (Ne.symm ne5)
 have Y37 := Ar1.other W16 (Ne.symm ne7)
 refine o_q T16 (o_f12 m 5 pp []) st16 ?_
 refine o_q T16 (o_f12 m 6 pp [(.ref pp)]) (fun _ k => XS.aloadN X16.here hx rfl (hb hby o_d8_5) rfl rfl k) ?_
 obtain ⟨T38, X38, e38, st38⟩ := getF X16 hx hZ hown (host := "") (Or.inl (o_m hw 38 rfl)) Via.refl e16 Y28 (g := (o_f12 m 6 pp [(.ref pp)])) rfl rfl (hb hby o_d8_6)
 refine o_q T38 (o_f12 m 9 pp [(.ref wa)]) st38 ?_
 refine o_q T38 (o_f12 m 10 pp [(.ref pp), (.ref wa)]) (fun _ k => XS.aloadN X38.here hx rfl (hb hby o_d8_9) rfl rfl k) ?_
 obtain ⟨T39, X39, e39, st39⟩ := getF X38 hx hZ hown (host := "") (Or.inl (o_m hw 65 rfl)) Via.refl e38 Y29 (g := (o_f12 m 10 pp [(.ref pp), (.ref wa)])) rfl rfl (hb hby o_d8_10)
 refine o_q T39 (o_f12 m 13 pp [(.int (0 : Int32)), (.ref wa)]) st39 ?_
 obtain ⟨v40, T40, L40, hQ40, X40, st40⟩ := o_callF X39 hx hZ e39 hown (o_m hw 67 rfl) (o_m hw 68 rfl) (o_m hw 69 rfl) (o_m hw 70 rfl) (o_m hw 71 rfl) (o_m hw 72 rfl) (o_m hw 73 rfl) (o_m hw 74 rfl) (by first | rfl | simp [Cond.onTables, Cond.keepsFace, Cond.keeps, Cond.steady]) (by decide) (b := wa) Y19 (o_m hw 76 rfl) (o_m hw 75 rfl) (o_k9_5 l Z a0 hw wa h16 ) (g := (o_f12 m 13 pp [(.int (0 : Int32)), (.ref wa)])) rfl (by rw [hml]; rfl) rfl (argsL := [(.int (0 : Int32))]) (rest := []) rfl (lenOf o_pd2 rfl) rfl (hb hby o_d8_13) (o_b rfl) (o_b rfl) (o_b rfl) (o_b rfl)
 obtain ⟨rfl, rfl, e40⟩ := hQ40
 rw [List.append_nil] at X40
 refine o_q T40 (o_f12 m 18 pp []) st40 ?_
 have hP41 : o_Pr Z n0 pp rc ru wa tm fr tl la L ch gb xs fs rs h16 := ⟨Y17, Y18, Y19, Y20, Y21, Y22, Y23, Y24, Y25, Y26, Fw16, Y28, Y29, Y30, Y31, Y32, Y33, Y34, Y35, Y36, Y37, nt1, wl1, gp1, gt1, gf1, gr1, gu1⟩
 refine o_retV X40 hx hlk hret (hb hby o_d8_18) ?_ (o_b rfl) (o_b rfl)
 rw [e40]
 exact ⟨rfl, N_16, hP41⟩
theorem o_Lg {L : Int32} (hL : L = 4 ∨ L = 8 ∨ L = 16) : ((2 : Int32) * L).toInt = 2 * L.toInt ∧ (L / (2 : Int32)).toInt ≤ L.toInt ∧ 4 ≤ L.toInt ∧ L.toInt ≤ 16 := by rcases hL with rfl | rfl | rfl <;> decide
theorem o_d10_11 : decode o_y8 11 = .ok (.aload_n 0, 1) := by decide +kernel
theorem o_d10_12 : decode o_y8 12 = .ok (.getfield 56, 3) := by decide +kernel
theorem o_d10_15 : decode o_y8 15 = .ok (.istore_n 2, 1) := by decide +kernel
theorem o_d10_16 : decode o_y8 16 = .ok (.iload_n 1, 1) := by decide +kernel
theorem o_d10_17 : decode o_y8 17 = .ok (.iload_n 2, 1) := by decide +kernel
theorem o_d10_18 : decode o_y8 18 = .ok (.isub, 1) := by decide +kernel
theorem o_d10_19 : decode o_y8 19 = .ok (.istore_n 3, 1) := by decide +kernel
theorem o_d10_20 : decode o_y8 20 = .ok (.aload_n 0, 1) := by decide +kernel
theorem o_d10_21 : decode o_y8 21 = .ok (.getfield 46, 3) := by decide +kernel
theorem o_d10_24 : decode o_y8 24 = .ok (.astore 4, 2) := by decide +kernel
theorem o_d10_26 : decode o_y8 26 = .ok (.aload_n 0, 1) := by decide +kernel
theorem o_d10_27 : decode o_y8 27 = .ok (.getfield 49, 3) := by decide +kernel
theorem o_d10_30 : decode o_y8 30 = .ok (.astore 5, 2) := by decide +kernel
theorem o_d10_32 : decode o_y8 32 = .ok (.iload_n 3, 1) := by decide +kernel
theorem o_d10_33 : decode o_y8 33 = .ok (.aload_n 0, 1) := by decide +kernel
theorem o_d10_34 : decode o_y8 34 = .ok (.getfield 46, 3) := by decide +kernel
theorem o_d10_37 : decode o_y8 37 = .ok (.arraylength, 1) := by decide +kernel
theorem o_d10_38 : decode o_y8 38 = .ok (.iconst 2, 1) := by decide +kernel
theorem o_d10_39 : decode o_y8 39 = .ok (.idiv, 1) := by decide +kernel
theorem o_d10_40 : decode o_y8 40 = .ok (.if_icmp .le 31, 3) := by decide +kernel
theorem o_d10_43 : decode o_y8 43 = .ok (.aload_n 0, 1) := by decide +kernel
theorem o_d10_44 : decode o_y8 44 = .ok (.iload_n 3, 1) := by decide +kernel
theorem o_d10_45 : decode o_y8 45 = .ok (.iconst 2, 1) := by decide +kernel
theorem o_d10_46 : decode o_y8 46 = .ok (.aload_n 0, 1) := by decide +kernel
theorem o_d10_47 : decode o_y8 47 = .ok (.getfield 46, 3) := by decide +kernel
theorem o_d10_50 : decode o_y8 50 = .ok (.arraylength, 1) := by decide +kernel
theorem o_d10_51 : decode o_y8 51 = .ok (.imul, 1) := by decide +kernel
theorem o_d10_52 : decode o_y8 52 = .ok (.invokestatic 92, 3) := by decide +kernel
theorem o_d10_55 : decode o_y8 55 = .ok (.newarray .long, 2) := by decide +kernel
theorem o_d10_57 : decode o_y8 57 = .ok (.putfield 46, 3) := by decide +kernel
theorem o_d10_60 : decode o_y8 60 = .ok (.aload_n 0, 1) := by decide +kernel
theorem o_d10_61 : decode o_y8 61 = .ok (.aload_n 0, 1) := by decide +kernel
theorem o_d10_62 : decode o_y8 62 = .ok (.getfield 46, 3) := by decide +kernel
theorem o_d10_65 : decode o_y8 65 = .ok (.arraylength, 1) := by decide +kernel
theorem o_d10_66 : decode o_y8 66 = .ok (.newarray .int, 2) := by decide +kernel
theorem o_d10_68 : decode o_y8 68 = .ok (.putfield 49, 3) := by decide +kernel
theorem o_d10_71 : decode o_y8 71 = .ok (.aload 4, 2) := by decide +kernel
theorem o_d10_73 : decode o_y8 73 = .ok (.aload_n 0, 1) := by decide +kernel
theorem o_d10_74 : decode o_y8 74 = .ok (.getfield 56, 3) := by decide +kernel
theorem o_d10_77 : decode o_y8 77 = .ok (.aload_n 0, 1) := by decide +kernel
theorem o_d10_78 : decode o_y8 78 = .ok (.getfield 46, 3) := by decide +kernel
theorem o_d10_81 : decode o_y8 81 = .ok (.iconst 0, 1) := by decide +kernel
theorem o_d10_82 : decode o_y8 82 = .ok (.aload_n 0, 1) := by decide +kernel
theorem o_d10_83 : decode o_y8 83 = .ok (.getfield 53, 3) := by decide +kernel
theorem o_d10_86 : decode o_y8 86 = .ok (.aload_n 0, 1) := by decide +kernel
theorem o_d10_87 : decode o_y8 87 = .ok (.getfield 56, 3) := by decide +kernel
theorem o_d10_90 : decode o_y8 90 = .ok (.isub, 1) := by decide +kernel
theorem o_d10_91 : decode o_y8 91 = .ok (.invokestatic 244, 3) := by decide +kernel
theorem o_d10_94 : decode o_y8 94 = .ok (.aload 5, 2) := by decide +kernel
theorem o_d10_96 : decode o_y8 96 = .ok (.aload_n 0, 1) := by decide +kernel
theorem o_d10_97 : decode o_y8 97 = .ok (.getfield 56, 3) := by decide +kernel
theorem o_d10_100 : decode o_y8 100 = .ok (.aload_n 0, 1) := by decide +kernel
theorem o_d10_101 : decode o_y8 101 = .ok (.getfield 49, 3) := by decide +kernel
theorem o_d10_104 : decode o_y8 104 = .ok (.iconst 0, 1) := by decide +kernel
theorem o_d10_105 : decode o_y8 105 = .ok (.aload_n 0, 1) := by decide +kernel
theorem o_d10_106 : decode o_y8 106 = .ok (.getfield 53, 3) := by decide +kernel
theorem o_d10_109 : decode o_y8 109 = .ok (.aload_n 0, 1) := by decide +kernel
theorem o_d10_110 : decode o_y8 110 = .ok (.getfield 56, 3) := by decide +kernel
theorem o_d10_113 : decode o_y8 113 = .ok (.isub, 1) := by decide +kernel
theorem o_d10_114 : decode o_y8 114 = .ok (.invokestatic 244, 3) := by decide +kernel
theorem o_d10_117 : decode o_y8 117 = .ok (.aload_n 0, 1) := by decide +kernel
theorem o_d10_118 : decode o_y8 118 = .ok (.iconst 0, 1) := by decide +kernel
theorem o_d10_119 : decode o_y8 119 = .ok (.putfield 56, 3) := by decide +kernel
theorem o_d10_122 : decode o_y8 122 = .ok (.aload_n 0, 1) := by decide +kernel
theorem o_d10_123 : decode o_y8 123 = .ok (.dup, 1) := by decide +kernel
theorem o_d10_124 : decode o_y8 124 = .ok (.getfield 53, 3) := by decide +kernel
theorem o_d10_127 : decode o_y8 127 = .ok (.iload_n 2, 1) := by decide +kernel
theorem o_d10_128 : decode o_y8 128 = .ok (.isub, 1) := by decide +kernel
theorem o_d10_129 : decode o_y8 129 = .ok (.putfield 53, 3) := by decide +kernel
theorem o_d10_132 : decode o_y8 132 = .ok (.aload_n 0, 1) := by decide +kernel
theorem o_d10_133 : decode o_y8 133 = .ok (.getfield 14, 3) := by decide +kernel
theorem o_d10_136 : decode o_y8 136 = .ok (.invokevirtual 257, 3) := by decide +kernel
theorem o_pd0 : parseMethodDescriptor "()V" = some ⟨[], none⟩ := by decide +kernel
theorem o_d10_139 : decode o_y8 139 = .ok (.iload_n 2, 1) := by decide +kernel
theorem o_d10_140 : decode o_y8 140 = .ok (.ireturn, 1) := by decide +kernel
set_option maxRecDepth 65536 in
set_option maxHeartbeats 40000000 in
theorem o_room1 (l : Launch) (Z : State) (a0 : Array Value) (hw : ∀ d ∈ tables_1, d.before a0 Z = true) (n0 : Nat) (pp rc ru wa tm fr : Addr) (tl la L : Int32) (ch gb : Int64) (xs : Nat → Int64) (fs : Nat → Int32) (rs : Nat → Int64) (L2 len : Int32) (h0 : Heap) (hP : o_Pr Z n0 pp rc ru wa tm fr tl la L ch gb xs fs rs h0) (lz : L2 = ((2 : Int32) * L)) (lq : L2.toInt = 2 * L.toInt) (lh : (L / (2 : Int32)).toInt ≤ L.toInt) (lv : 4 ≤ L.toInt) (lw : L.toInt ≤ 16) (i1 : 1 ≤ tl.toInt) (i2 : tl.toInt ≤ L.toInt) (r1 : L.toInt < len.toInt) (r2 : len.toInt = tl.toInt + 2) :
  o_C l (⟨o_n1, "room", "(I)I"⟩ : MethodName) o_y8 6 (some .int) (o_R 1 2 64 40) Z h0 #[(.ref pp), (.int len)] (fun v h Ls => ∃ (tm' fr' : Addr) (xs' : Nat → Int64) (fs' : Nat → Int32), v = some (.int (0 : Int32)) ∧ Fr n0 Ls ∧ o_Pr Z n0 pp rc ru wa tm' fr' tl la L2 ch gb xs' fs' rs h ∧ (∀ i, i < tl.toNatClampNeg → xs' i = xs i) ∧ (∀ i, i < tl.toNatClampNeg → fs' i = fs i)) := by
 refine o_body o_pn10 ?_
 intro p e s m below meth c s₁ hx hby hml hZ hown hnm hret hlk X0 e0
 refine o_cast (f' := (o_f11 m 0 pp len [])) (by first | (simp [entryFrame, mkF, argsToLocals, Value.category, maxLocals]; done) | rfl) ?_
 obtain ⟨Ep1, Er1, Ew1, F1_cpus, F1_times, F1_free, F1_head, F1_tail, F1_lastAt, F1_runs, F1_firstKnown, F1_watcher, F1_watchedAs, F1_changes, F1_merged, F1_gaveBack, F1_recent, Fn1, At1, Af1, Ar1, nt1, wl1, gp1, gt1, gf1, gr1, gu1⟩ := hP
 have ne2 : o_ne pp ru := Ep1.ne Er1 (by decide)
 have ne3 : o_ne pp tm := At1.neExa Ep1 (o_m hw 8 rfl)
 have ne4 : o_ne ru tm := At1.neExa Er1 (o_m hw 17 rfl)
 have ne5 : o_ne pp fr := Af1.neExa Ep1 (o_m hw 8 rfl)
 have ne6 : o_ne ru fr := Af1.neExa Er1 (o_m hw 17 rfl)
 have ne7 : o_ne pp rc := Ar1.neExa Ep1 (o_m hw 8 rfl)
 have ne8 : o_ne ru rc := Ar1.neExa Er1 (o_m hw 17 rfl)
 have ne9 : o_ne wa pp := Nat.ne_of_lt (Nat.lt_of_lt_of_le wl1 gp1)
 have ne10 : o_ne wa tm := Nat.ne_of_lt (Nat.lt_of_lt_of_le wl1 gt1)
 have ne11 : o_ne wa fr := Nat.ne_of_lt (Nat.lt_of_lt_of_le wl1 gf1)
 have ne12 : o_ne wa rc := Nat.ne_of_lt (Nat.lt_of_lt_of_le wl1 gr1)
 have ne13 : o_ne wa ru := Nat.ne_of_lt (Nat.lt_of_lt_of_le wl1 gu1)
 have ne14 : o_ne tm fr := At1.ne Af1 (by intro q; cases q)
 have ne15 : o_ne fr rc := Af1.ne Ar1 (by intro q; cases q)
 refine o_q s₁ (o_f11 m 1 pp len [(.int len)]) (fun _ k => XS.iloadN X0.here hx rfl (hb hby o_d10_0) rfl k) ?_
 refine o_q s₁ (o_f11 m 2 pp len [(.ref pp), (.int len)]) (fun _ k => XS.aloadN X0.here hx rfl (hb hby o_d10_1) rfl rfl k) ?_
 obtain ⟨T16, X16, e16, st16⟩ := getF X0 hx hZ hown (host := "") (Or.inl (o_m hw 43 rfl)) Via.refl e0 F1_times (g := (o_f11 m 2 pp len [(.ref pp), (.int len)])) rfl rfl (hb hby o_d10_2)
 refine o_q T16 (o_f11 m 5 pp len [(.ref tm), (.int len)]) st16 ?_
 refine o_q T16 (o_f11 m 6 pp len [(.int L), (.int len)]) (fun _ k => o_len X16 hx hZ e16 At1 (g := (o_f11 m 5 pp len [(.ref tm), (.int len)])) rfl rfl (hb hby o_d10_5) _ k) ?_
 have q17 : L.toInt < len.toInt := by
  have r1 := rng32 L
  have r2 := rng32 len
  omega
 refine o_q T16 (o_f11 m 11 pp len []) (fun _ k => XS.icmpYes X16.here hx rfl (pc0 := 6) (pc' := 11) rfl (hb hby o_d10_6) rfl (tlt (Int32.lt_iff_toInt_lt.mpr q17)).2.2.1 (by decide) (by decide) k) ?_
 refine o_q T16 (o_f11 m 12 pp len [(.ref pp)]) (fun _ k => XS.aloadN X16.here hx rfl (hb hby o_d10_11) rfl rfl k) ?_
 obtain ⟨T18, X18, e18, st18⟩ := getF X16 hx hZ hown (host := "") (Or.inl (o_m hw 92 rfl)) Via.refl e16 F1_head (g := (o_f11 m 12 pp len [(.ref pp)])) rfl rfl (hb hby o_d10_12)
 refine o_q T18 (o_f11 m 15 pp len [(.int (0 : Int32))]) st18 ?_
 refine o_q T18 (o_f13 m 16 pp len (0 : Int32) []) (fun _ k => XS.istoreN X18.here hx rfl (hb hby o_d10_15) rfl (l' := (o_t13 pp len (0 : Int32))) rfl k) ?_
 refine o_q T18 (o_f13 m 17 pp len (0 : Int32) [(.int len)]) (fun _ k => XS.iloadN X18.here hx rfl (hb hby o_d10_16) rfl k) ?_
 refine o_q T18 (o_f13 m 18 pp len (0 : Int32) [(.int (0 : Int32)), (.int len)]) (fun _ k => XS.iloadN X18.here hx rfl (hb hby o_d10_17) rfl k) ?_
 refine o_q T18 (o_f13 m 19 pp len (0 : Int32) [(.int (len - (0 : Int32)))]) (fun _ k => XS.isub X18.here hx rfl (hb hby o_d10_18) rfl k) ?_
 refine o_q T18 (o_f14 m 20 pp len (0 : Int32) (len - (0 : Int32)) []) (fun _ k => XS.istoreN X18.here hx rfl (hb hby o_d10_19) rfl (l' := (o_t14 pp len (0 : Int32) (len - (0 : Int32)))) rfl k) ?_
 refine o_q T18 (o_f14 m 21 pp len (0 : Int32) (len - (0 : Int32)) [(.ref pp)]) (fun _ k => XS.aloadN X18.here hx rfl (hb hby o_d10_20) rfl rfl k) ?_
 obtain ⟨T19, X19, e19, st19⟩ := getF X18 hx hZ hown (host := "") (Or.inl (o_m hw 43 rfl)) Via.refl e18 F1_times (g := (o_f14 m 21 pp len (0 : Int32) (len - (0 : Int32)) [(.ref pp)])) rfl rfl (hb hby o_d10_21)
 refine o_q T19 (o_f14 m 24 pp len (0 : Int32) (len - (0 : Int32)) [(.ref tm)]) st19 ?_
 refine o_q T19 (o_f15 m 26 pp len (0 : Int32) (len - (0 : Int32)) tm []) (fun _ k => XS.astore X19.here hx rfl (hb hby o_d10_24) rfl rfl (l' := (o_t15 pp len (0 : Int32) (len - (0 : Int32)) tm)) rfl k) ?_
 refine o_q T19 (o_f15 m 27 pp len (0 : Int32) (len - (0 : Int32)) tm [(.ref pp)]) (fun _ k => XS.aloadN X19.here hx rfl (hb hby o_d10_26) rfl rfl k) ?_
 obtain ⟨T20, X20, e20, st20⟩ := getF X19 hx hZ hown (host := "") (Or.inl (o_m hw 46 rfl)) Via.refl e19 F1_free (g := (o_f15 m 27 pp len (0 : Int32) (len - (0 : Int32)) tm [(.ref pp)])) rfl rfl (hb hby o_d10_27)
 refine o_q T20 (o_f15 m 30 pp len (0 : Int32) (len - (0 : Int32)) tm [(.ref fr)]) st20 ?_
 refine o_q T20 (o_f16 m 32 pp len (0 : Int32) (len - (0 : Int32)) tm fr []) (fun _ k => XS.astore X20.here hx rfl (hb hby o_d10_30) rfl rfl (l' := (o_t16 pp len (0 : Int32) (len - (0 : Int32)) tm fr)) rfl k) ?_
 refine o_q T20 (o_f16 m 33 pp len (0 : Int32) (len - (0 : Int32)) tm fr [(.int (len - (0 : Int32)))]) (fun _ k => XS.iloadN X20.here hx rfl (hb hby o_d10_32) rfl k) ?_
 refine o_q T20 (o_f16 m 34 pp len (0 : Int32) (len - (0 : Int32)) tm fr [(.ref pp), (.int (len - (0 : Int32)))]) (fun _ k => XS.aloadN X20.here hx rfl (hb hby o_d10_33) rfl rfl k) ?_
 obtain ⟨T21, X21, e21, st21⟩ := getF X20 hx hZ hown (host := "") (Or.inl (o_m hw 43 rfl)) Via.refl e20 F1_times (g := (o_f16 m 34 pp len (0 : Int32) (len - (0 : Int32)) tm fr [(.ref pp), (.int (len - (0 : Int32)))])) rfl rfl (hb hby o_d10_34)
 refine o_q T21 (o_f16 m 37 pp len (0 : Int32) (len - (0 : Int32)) tm fr [(.ref tm), (.int (len - (0 : Int32)))]) st21 ?_
 refine o_q T21 (o_f16 m 38 pp len (0 : Int32) (len - (0 : Int32)) tm fr [(.int L), (.int (len - (0 : Int32)))]) (fun _ k => o_len X21 hx hZ e21 At1 (g := (o_f16 m 37 pp len (0 : Int32) (len - (0 : Int32)) tm fr [(.ref tm), (.int (len - (0 : Int32)))])) rfl rfl (hb hby o_d10_37) _ k) ?_
 refine o_q T21 (o_f16 m 39 pp len (0 : Int32) (len - (0 : Int32)) tm fr [(.int (2 : Int32)), (.int L), (.int (len - (0 : Int32)))]) (fun _ k => XS.iconst X21.here hx rfl (hb hby o_d10_38) k) ?_
 refine o_q T21 (o_f16 m 40 pp len (0 : Int32) (len - (0 : Int32)) tm fr [(.int (L / (2 : Int32))), (.int (len - (0 : Int32)))]) (fun _ k => XS.idiv X21.here hx rfl (hb hby o_d10_39) rfl (by decide) k) ?_
 obtain ⟨Lh, h_Lh⟩ : ∃ z, z = (L / (2 : Int32)) := ⟨_, rfl⟩
 rw [← h_Lh]
 rw [← h_Lh] at lh
 have q22 : Lh.toInt < ((len - (0 : Int32))).toInt := by
  have r1 := rng32 Lh
  have r2 := rng32 len
  have k3 : (0 : Int32).toInt = 0 := by decide
  have e4 := c_isub (len) ((0 : Int32))
  have r4 := rng32 ((len - (0 : Int32)))
  rw [show (0 : Int32).toInt = 0 from by decide] at e4
  omega
 refine o_q T21 (o_f16 m 43 pp len (0 : Int32) (len - (0 : Int32)) tm fr []) (fun _ k => XS.icmpNo X21.here hx rfl (hb hby o_d10_40) rfl (tlt (Int32.lt_iff_toInt_lt.mpr q22)).2.2.2 k) ?_
 refine o_q T21 (o_f16 m 44 pp len (0 : Int32) (len - (0 : Int32)) tm fr [(.ref pp)]) (fun _ k => XS.aloadN X21.here hx rfl (hb hby o_d10_43) rfl rfl k) ?_
 refine o_q T21 (o_f16 m 45 pp len (0 : Int32) (len - (0 : Int32)) tm fr [(.int (len - (0 : Int32))), (.ref pp)]) (fun _ k => XS.iloadN X21.here hx rfl (hb hby o_d10_44) rfl k) ?_
 refine o_q T21 (o_f16 m 46 pp len (0 : Int32) (len - (0 : Int32)) tm fr [(.int (2 : Int32)), (.int (len - (0 : Int32))), (.ref pp)]) (fun _ k => XS.iconst X21.here hx rfl (hb hby o_d10_45) k) ?_
 refine o_q T21 (o_f16 m 47 pp len (0 : Int32) (len - (0 : Int32)) tm fr [(.ref pp), (.int (2 : Int32)), (.int (len - (0 : Int32))), (.ref pp)]) (fun _ k => XS.aloadN X21.here hx rfl (hb hby o_d10_46) rfl rfl k) ?_
 obtain ⟨T23, X23, e23, st23⟩ := getF X21 hx hZ hown (host := "") (Or.inl (o_m hw 43 rfl)) Via.refl e21 F1_times (g := (o_f16 m 47 pp len (0 : Int32) (len - (0 : Int32)) tm fr [(.ref pp), (.int (2 : Int32)), (.int (len - (0 : Int32))), (.ref pp)])) rfl rfl (hb hby o_d10_47)
 refine o_q T23 (o_f16 m 50 pp len (0 : Int32) (len - (0 : Int32)) tm fr [(.ref tm), (.int (2 : Int32)), (.int (len - (0 : Int32))), (.ref pp)]) st23 ?_
 refine o_q T23 (o_f16 m 51 pp len (0 : Int32) (len - (0 : Int32)) tm fr [(.int L), (.int (2 : Int32)), (.int (len - (0 : Int32))), (.ref pp)]) (fun _ k => o_len X23 hx hZ e23 At1 (g := (o_f16 m 50 pp len (0 : Int32) (len - (0 : Int32)) tm fr [(.ref tm), (.int (2 : Int32)), (.int (len - (0 : Int32))), (.ref pp)])) rfl rfl (hb hby o_d10_50) _ k) ?_
 refine o_q T23 (o_f16 m 52 pp len (0 : Int32) (len - (0 : Int32)) tm fr [(.int ((2 : Int32) * L)), (.int (len - (0 : Int32))), (.ref pp)]) (fun _ k => XS.imul X23.here hx rfl (hb hby o_d10_51) rfl k) ?_
 rw [← lz]
 have c32 : L2.toNatClampNeg ≤ 32 := by have := o_nat L2 (by omega); omega
 obtain ⟨v24, T24, L24, hQ24, X24, st24⟩ := o_callS X23 hx hZ e23 hown (o_m hw 140 rfl) (o_m hw 141 rfl) (by decide) (o_m hw 142 rfl) (o_m hw 2 rfl) (o_k22_2 l Z a0 hw (len - (0 : Int32)) L2 h0 ) (g := (o_f16 m 52 pp len (0 : Int32) (len - (0 : Int32)) tm fr [(.int L2), (.int (len - (0 : Int32))), (.ref pp)])) rfl (by rw [hml]; rfl) rfl (argsL := [(.int (len - (0 : Int32))), (.int L2)]) (rest := [(.ref pp)]) rfl (lenOf o_pd3 rfl) rfl (hb hby o_d10_52) (o_b rfl) (o_b rfl) (o_b rfl) (o_b rfl)
 obtain ⟨rfl, rfl, e24⟩ := hQ24
 rw [List.append_nil] at X24
 have q25 : ((len - (0 : Int32))).toInt < L2.toInt := by
  have r1 := rng32 len
  have k2 : (0 : Int32).toInt = 0 := by decide
  have e3 := c_isub (len) ((0 : Int32))
  have r3 := rng32 ((len - (0 : Int32)))
  rw [show (0 : Int32).toInt = 0 from by decide] at e3
  have r4 := rng32 L2
  omega
 rw [if_pos (Int32.lt_iff_toInt_lt.mpr q25)] at st24
 refine o_q T24 (o_f16 m 55 pp len (0 : Int32) (len - (0 : Int32)) tm fr [(.int L2), (.ref pp)]) st24 ?_
 obtain ⟨T26, h26, k26, X26, e26, E26, A26, st26⟩ := newP X24 hx hZ (o_m hw 27 rfl) e24 (g := (o_f16 m 55 pp len (0 : Int32) (len - (0 : Int32)) tm fr [(.int L2), (.ref pp)])) rfl (hb hby o_d10_55) rfl (o_nlt0 (by omega)) (cap := 32) c32 (by decide) (by decide) (by decide)
 obtain ⟨b26, g26⟩ : ∃ z, z = h0.size := ⟨_, rfl⟩
 rw [← g26] at A26 st26
 have ne27 : o_ne pp b26 := Nat.ne_of_lt (Nat.lt_of_lt_of_le Ep1.lt (Nat.le_of_eq g26.symm))
 have ne28 : o_ne ru b26 := Nat.ne_of_lt (Nat.lt_of_lt_of_le Er1.lt (Nat.le_of_eq g26.symm))
 have ne29 : o_ne wa b26 := Nat.ne_of_lt (Nat.lt_of_lt_of_le Ew1.lt (Nat.le_of_eq g26.symm))
 have ne30 : o_ne tm b26 := Nat.ne_of_lt (Nat.lt_of_lt_of_le At1.lt (Nat.le_of_eq g26.symm))
 have ne31 : o_ne fr b26 := Nat.ne_of_lt (Nat.lt_of_lt_of_le Af1.lt (Nat.le_of_eq g26.symm))
 have ne32 : o_ne rc b26 := Nat.ne_of_lt (Nat.lt_of_lt_of_le Ar1.lt (Nat.le_of_eq g26.symm))
 have g_b26 : n0 ≤ b26 := Nat.le_trans (Nat.le_of_lt (Nat.lt_of_le_of_lt gp1 Ep1.lt)) (Nat.le_of_eq g26.symm)
 have V26 : o_LA Z h26 b26 L2 (fun _ => 0) := o_new0 A26 (o_nlt0 (by omega)) rfl
 obtain ⟨f26, d_f26⟩ : ∃ z : Nat → Int64, z = (fun _ => 0) := ⟨_, rfl⟩
 rw [← d_f26] at V26
 have Y33 := Ep1.ext E26
 have Y34 := Er1.ext E26
 have Y35 := Ew1.ext E26
 have Y36 := F1_cpus.ext E26
 have Y37 := F1_times.ext E26
 have Y38 := F1_free.ext E26
 have Y39 := F1_head.ext E26
 have Y40 := F1_tail.ext E26
 have Y41 := F1_lastAt.ext E26
 have Y42 := F1_runs.ext E26
 have Y43 := F1_firstKnown.ext E26
 have Y44 := F1_watcher.ext E26
 have Y45 := F1_watchedAs.ext E26
 have Y46 := F1_changes.ext E26
 have Y47 := F1_merged.ext E26
 have Y48 := F1_gaveBack.ext E26
 have Y49 := F1_recent.ext E26
 have Y50 := Fn1.ext E26
 have Y51 := At1.ext E26
 have Y52 := Af1.ext E26
 have Y53 := Ar1.ext E26
 refine o_q T26 (o_f16 m 57 pp len (0 : Int32) (len - (0 : Int32)) tm fr [(.ref b26), (.ref pp)]) st26 ?_
 obtain ⟨T54, h54, X54, e54, W54, st54⟩ := putF X26 hx hZ hown (host := "") (Or.inl (o_m hw 43 rfl)) Via.refl e26 Y37 Y33 (Or.inl (o_m hw 44 rfl)) (o_m hw 8 rfl) (ty := (.array .long)) (by decide) rfl rfl (g := (o_f16 m 57 pp len (0 : Int32) (len - (0 : Int32)) tm fr [(.ref b26), (.ref pp)])) rfl rfl (hb hby o_d10_57)
 have Fw54 := Y37.same W54
 have N_54 := Fr.snoc X54 (Fr.nil _) gp1
 have Y55 := Y33.wr W54
 have Y56 := Y34.wr W54
 have Y57 := Y35.wr W54
 have Y58 := Y36.other W54 (o_sn (Or.inr (o_m hw 41 rfl)) (Or.inl (o_m hw 44 rfl)))
 have Y60 := Y38.other W54 (o_sn (Or.inl (o_m hw 47 rfl)) (Or.inl (o_m hw 44 rfl)))
 have Y61 := Y39.other W54 (o_sn (Or.inl (o_m hw 93 rfl)) (Or.inl (o_m hw 44 rfl)))
 have Y62 := Y40.other W54 (o_sn (Or.inl (o_m hw 49 rfl)) (Or.inl (o_m hw 44 rfl)))
 have Y63 := Y41.other W54 (o_sn (Or.inl (o_m hw 106 rfl)) (Or.inl (o_m hw 44 rfl)))
 have Y64 := Y42.other W54 (o_sn (Or.inr (o_m hw 26 rfl)) (Or.inl (o_m hw 44 rfl)))
 have Y65 := Y43.other W54 (o_sn (Or.inl (o_m hw 64 rfl)) (Or.inl (o_m hw 44 rfl)))
 have Y66 := Y44.other W54 (o_sn (Or.inl (o_m hw 39 rfl)) (Or.inl (o_m hw 44 rfl)))
 have Y67 := Y45.other W54 (o_sn (Or.inl (o_m hw 66 rfl)) (Or.inl (o_m hw 44 rfl)))
 have Y68 := Y46.other W54 (o_sn (Or.inl (o_m hw 78 rfl)) (Or.inl (o_m hw 44 rfl)))
 have Y69 := Y47.other W54 (o_sn (Or.inl (o_m hw 132 rfl)) (Or.inl (o_m hw 44 rfl)))
 have Y70 := Y48.other W54 (o_sn (Or.inl (o_m hw 166 rfl)) (Or.inl (o_m hw 44 rfl)))
 have Y71 := Y49.other W54 (o_sn (Or.inr (o_m hw 35 rfl)) (Or.inl (o_m hw 44 rfl)))
 have Y72 := Y50.other W54 (Or.inl (Ne.symm ne2))
 have Y73 := Y51.other W54 (Ne.symm ne3)
 have Y74 := Y52.other W54 (Ne.symm ne5)
 have Y75 := Y53.other W54 (Ne.symm ne7)
 have Y76 := V26.other W54 (Ne.symm ne27)
 refine o_q T54 (o_f16 m 60 pp len (0 : Int32) (len - (0 : Int32)) tm fr []) st54 ?_
 refine o_q T54 (o_f16 m 61 pp len (0 : Int32) (len - (0 : Int32)) tm fr [(.ref pp)]) (fun _ k => XS.aloadN X54.here hx rfl (hb hby o_d10_60) rfl rfl k) ?_
 refine o_q T54 (o_f16 m 62 pp len (0 : Int32) (len - (0 : Int32)) tm fr [(.ref pp), (.ref pp)]) (fun _ k => XS.aloadN X54.here hx rfl (hb hby o_d10_61) rfl rfl k) ?_
 obtain ⟨T77, X77, e77, st77⟩ := getF X54 hx hZ hown (host := "") (Or.inl (o_m hw 43 rfl)) Via.refl e54 Fw54 (g := (o_f16 m 62 pp len (0 : Int32) (len - (0 : Int32)) tm fr [(.ref pp), (.ref pp)])) rfl rfl (hb hby o_d10_62)
 refine o_q T77 (o_f16 m 65 pp len (0 : Int32) (len - (0 : Int32)) tm fr [(.ref b26), (.ref pp)]) st77 ?_
 refine o_q T77 (o_f16 m 66 pp len (0 : Int32) (len - (0 : Int32)) tm fr [(.int L2), (.ref pp)]) (fun _ k => o_len X77 hx hZ e77 Y76 (g := (o_f16 m 65 pp len (0 : Int32) (len - (0 : Int32)) tm fr [(.ref b26), (.ref pp)])) rfl rfl (hb hby o_d10_65) _ k) ?_
 obtain ⟨T78, h78, k78, X78, e78, E78, A78, st78⟩ := newP X77 hx hZ (o_m hw 45 rfl) e77 (g := (o_f16 m 66 pp len (0 : Int32) (len - (0 : Int32)) tm fr [(.int L2), (.ref pp)])) rfl (hb hby o_d10_66) rfl (o_nlt0 (by omega)) (cap := 32) c32 (by decide) (by decide) (by decide)
 obtain ⟨b78, g78⟩ : ∃ z, z = h54.size := ⟨_, rfl⟩
 rw [← g78] at A78 st78
 have ne79 : o_ne pp b78 := Nat.ne_of_lt (Nat.lt_of_lt_of_le Y55.lt (Nat.le_of_eq g78.symm))
 have ne80 : o_ne ru b78 := Nat.ne_of_lt (Nat.lt_of_lt_of_le Y56.lt (Nat.le_of_eq g78.symm))
 have ne81 : o_ne wa b78 := Nat.ne_of_lt (Nat.lt_of_lt_of_le Y57.lt (Nat.le_of_eq g78.symm))
 have ne82 : o_ne tm b78 := Nat.ne_of_lt (Nat.lt_of_lt_of_le Y73.lt (Nat.le_of_eq g78.symm))
 have ne83 : o_ne fr b78 := Nat.ne_of_lt (Nat.lt_of_lt_of_le Y74.lt (Nat.le_of_eq g78.symm))
 have ne84 : o_ne rc b78 := Nat.ne_of_lt (Nat.lt_of_lt_of_le Y75.lt (Nat.le_of_eq g78.symm))
 have ne85 : o_ne b26 b78 := Nat.ne_of_lt (Nat.lt_of_lt_of_le Y76.lt (Nat.le_of_eq g78.symm))
 have g_b78 : n0 ≤ b78 := Nat.le_trans (Nat.le_of_lt (Nat.lt_of_le_of_lt gp1 Y55.lt)) (Nat.le_of_eq g78.symm)
 have V78 : o_IA Z h78 b78 L2 (fun _ => 0) := o_new0 A78 (o_nlt0 (by omega)) rfl
 obtain ⟨f78, d_f78⟩ : ∃ z : Nat → Int32, z = (fun _ => 0) := ⟨_, rfl⟩
 rw [← d_f78] at V78
 have Y86 := Y55.ext E78
 have Y87 := Y56.ext E78
 have Y88 := Y57.ext E78
 have Y89 := Y58.ext E78
 have Y90 := Fw54.ext E78
 have Y91 := Y60.ext E78
 have Y92 := Y61.ext E78
 have Y93 := Y62.ext E78
 have Y94 := Y63.ext E78
 have Y95 := Y64.ext E78
 have Y96 := Y65.ext E78
 have Y97 := Y66.ext E78
 have Y98 := Y67.ext E78
 have Y99 := Y68.ext E78
 have Y100 := Y69.ext E78
 have Y101 := Y70.ext E78
 have Y102 := Y71.ext E78
 have Y103 := Y72.ext E78
 have Y104 := Y73.ext E78
 have Y105 := Y74.ext E78
 have Y106 := Y75.ext E78
 have Y107 := Y76.ext E78
 refine o_q T78 (o_f16 m 68 pp len (0 : Int32) (len - (0 : Int32)) tm fr [(.ref b78), (.ref pp)]) st78 ?_
 obtain ⟨T108, h108, X108, e108, W108, st108⟩ := putF X78 hx hZ hown (host := "") (Or.inl (o_m hw 46 rfl)) Via.refl e78 Y91 Y86 (Or.inl (o_m hw 47 rfl)) (o_m hw 8 rfl) (ty := (.array .int)) (by decide) rfl rfl (g := (o_f16 m 68 pp len (0 : Int32) (len - (0 : Int32)) tm fr [(.ref b78), (.ref pp)])) rfl rfl (hb hby o_d10_68)
 have Fw108 := Y91.same W108
 have N_108 := Fr.snoc X108 N_54 gp1
 have Y109 := Y86.wr W108
 have Y110 := Y87.wr W108
 have Y111 := Y88.wr W108
 have Y112 := Y89.other W108 (o_sn (Or.inr (o_m hw 41 rfl)) (Or.inl (o_m hw 47 rfl)))
 have Y113 := Y90.other W108 (o_sn (Or.inl (o_m hw 44 rfl)) (Or.inl (o_m hw 47 rfl)))
 have Y115 := Y92.other W108 (o_sn (Or.inl (o_m hw 93 rfl)) (Or.inl (o_m hw 47 rfl)))
 have Y116 := Y93.other W108 (o_sn (Or.inl (o_m hw 49 rfl)) (Or.inl (o_m hw 47 rfl)))
 have Y117 := Y94.other W108 (o_sn (Or.inl (o_m hw 106 rfl)) (Or.inl (o_m hw 47 rfl)))
 have Y118 := Y95.other W108 (o_sn (Or.inr (o_m hw 26 rfl)) (Or.inl (o_m hw 47 rfl)))
 have Y119 := Y96.other W108 (o_sn (Or.inl (o_m hw 64 rfl)) (Or.inl (o_m hw 47 rfl)))
 have Y120 := Y97.other W108 (o_sn (Or.inl (o_m hw 39 rfl)) (Or.inl (o_m hw 47 rfl)))
 have Y121 := Y98.other W108 (o_sn (Or.inl (o_m hw 66 rfl)) (Or.inl (o_m hw 47 rfl)))
 have Y122 := Y99.other W108 (o_sn (Or.inl (o_m hw 78 rfl)) (Or.inl (o_m hw 47 rfl)))
 have Y123 := Y100.other W108 (o_sn (Or.inl (o_m hw 132 rfl)) (Or.inl (o_m hw 47 rfl)))
 have Y124 := Y101.other W108 (o_sn (Or.inl (o_m hw 166 rfl)) (Or.inl (o_m hw 47 rfl)))
 have Y125 := Y102.other W108 (o_sn (Or.inr (o_m hw 35 rfl)) (Or.inl (o_m hw 47 rfl)))
 have Y126 := Y103.other W108 (Or.inl (Ne.symm ne2))
 have Y127 := Y104.other W108 (Ne.symm ne3)
 have Y128 := Y105.other W108 (Ne.symm ne5)
 have Y129 := Y106.other W108 (Ne.symm ne7)
 have Y130 := Y107.other W108 (Ne.symm ne27)
 have Y131 := V78.other W108 (Ne.symm ne79)
 refine o_q T108 (o_f16 m 71 pp len (0 : Int32) (len - (0 : Int32)) tm fr []) st108 ?_
 refine o_q T108 (o_f16 m 73 pp len (0 : Int32) (len - (0 : Int32)) tm fr [(.ref tm)]) (fun _ k => XS.aload X108.here hx rfl (hb hby o_d10_71) rfl rfl k) ?_
 refine o_q T108 (o_f16 m 74 pp len (0 : Int32) (len - (0 : Int32)) tm fr [(.ref pp), (.ref tm)]) (fun _ k => XS.aloadN X108.here hx rfl (hb hby o_d10_73) rfl rfl k) ?_
 obtain ⟨T132, X132, e132, st132⟩ := getF X108 hx hZ hown (host := "") (Or.inl (o_m hw 92 rfl)) Via.refl e108 Y115 (g := (o_f16 m 74 pp len (0 : Int32) (len - (0 : Int32)) tm fr [(.ref pp), (.ref tm)])) rfl rfl (hb hby o_d10_74)
 refine o_q T132 (o_f16 m 77 pp len (0 : Int32) (len - (0 : Int32)) tm fr [(.int (0 : Int32)), (.ref tm)]) st132 ?_
 refine o_q T132 (o_f16 m 78 pp len (0 : Int32) (len - (0 : Int32)) tm fr [(.ref pp), (.int (0 : Int32)), (.ref tm)]) (fun _ k => XS.aloadN X132.here hx rfl (hb hby o_d10_77) rfl rfl k) ?_
 obtain ⟨T133, X133, e133, st133⟩ := getF X132 hx hZ hown (host := "") (Or.inl (o_m hw 43 rfl)) Via.refl e132 Y113 (g := (o_f16 m 78 pp len (0 : Int32) (len - (0 : Int32)) tm fr [(.ref pp), (.int (0 : Int32)), (.ref tm)])) rfl rfl (hb hby o_d10_78)
 refine o_q T133 (o_f16 m 81 pp len (0 : Int32) (len - (0 : Int32)) tm fr [(.ref b26), (.int (0 : Int32)), (.ref tm)]) st133 ?_
 refine o_q T133 (o_f16 m 82 pp len (0 : Int32) (len - (0 : Int32)) tm fr [(.int (0 : Int32)), (.ref b26), (.int (0 : Int32)), (.ref tm)]) (fun _ k => XS.iconst X133.here hx rfl (hb hby o_d10_81) k) ?_
 refine o_q T133 (o_f16 m 83 pp len (0 : Int32) (len - (0 : Int32)) tm fr [(.ref pp), (.int (0 : Int32)), (.ref b26), (.int (0 : Int32)), (.ref tm)]) (fun _ k => XS.aloadN X133.here hx rfl (hb hby o_d10_82) rfl rfl k) ?_
 obtain ⟨T134, X134, e134, st134⟩ := getF X133 hx hZ hown (host := "") (Or.inl (o_m hw 48 rfl)) Via.refl e133 Y116 (g := (o_f16 m 83 pp len (0 : Int32) (len - (0 : Int32)) tm fr [(.ref pp), (.int (0 : Int32)), (.ref b26), (.int (0 : Int32)), (.ref tm)])) rfl rfl (hb hby o_d10_83)
 refine o_q T134 (o_f16 m 86 pp len (0 : Int32) (len - (0 : Int32)) tm fr [(.int tl), (.int (0 : Int32)), (.ref b26), (.int (0 : Int32)), (.ref tm)]) st134 ?_
 refine o_q T134 (o_f16 m 87 pp len (0 : Int32) (len - (0 : Int32)) tm fr [(.ref pp), (.int tl), (.int (0 : Int32)), (.ref b26), (.int (0 : Int32)), (.ref tm)]) (fun _ k => XS.aloadN X134.here hx rfl (hb hby o_d10_86) rfl rfl k) ?_
 obtain ⟨T135, X135, e135, st135⟩ := getF X134 hx hZ hown (host := "") (Or.inl (o_m hw 92 rfl)) Via.refl e134 Y115 (g := (o_f16 m 87 pp len (0 : Int32) (len - (0 : Int32)) tm fr [(.ref pp), (.int tl), (.int (0 : Int32)), (.ref b26), (.int (0 : Int32)), (.ref tm)])) rfl rfl (hb hby o_d10_87)
 refine o_q T135 (o_f16 m 90 pp len (0 : Int32) (len - (0 : Int32)) tm fr [(.int (0 : Int32)), (.int tl), (.int (0 : Int32)), (.ref b26), (.int (0 : Int32)), (.ref tm)]) st135 ?_
 refine o_q T135 (o_f16 m 91 pp len (0 : Int32) (len - (0 : Int32)) tm fr [(.int (tl - (0 : Int32))), (.int (0 : Int32)), (.ref b26), (.int (0 : Int32)), (.ref tm)]) (fun _ k => XS.isub X135.here hx rfl (hb hby o_d10_90) rfl k) ?_
 have u1_136 : 0 ≤ (0 : Int32).toInt := by
  have k1 : (0 : Int32).toInt = 0 := by decide
  omega
 have u2_136 : 0 ≤ (0 : Int32).toInt := by
  have k1 : (0 : Int32).toInt = 0 := by decide
  omega
 have u3_136 : 0 ≤ ((tl - (0 : Int32))).toInt := by
  have r1 := rng32 tl
  have k2 : (0 : Int32).toInt = 0 := by decide
  have e3 := c_isub (tl) ((0 : Int32))
  have r3 := rng32 ((tl - (0 : Int32)))
  rw [show (0 : Int32).toInt = 0 from by decide] at e3
  omega
 have u4_136 : (0 : Int32).toInt + ((tl - (0 : Int32))).toInt ≤ L.toInt := by
  have k1 : (0 : Int32).toInt = 0 := by decide
  have r2 := rng32 tl
  have e3 := c_isub (tl) ((0 : Int32))
  have r3 := rng32 ((tl - (0 : Int32)))
  rw [show (0 : Int32).toInt = 0 from by decide] at e3
  have r4 := rng32 L
  omega
 have u5_136 : (0 : Int32).toInt + ((tl - (0 : Int32))).toInt ≤ L2.toInt := by
  have k1 : (0 : Int32).toInt = 0 := by decide
  have r2 := rng32 tl
  have e3 := c_isub (tl) ((0 : Int32))
  have r3 := rng32 ((tl - (0 : Int32)))
  rw [show (0 : Int32).toInt = 0 from by decide] at e3
  have r4 := rng32 L2
  omega
 obtain ⟨T136, h136, L136, X136, e136, N_136, K136, A136, st136⟩ := o_cp X135 hx hZ hown (o_m hw 94 rfl) (o_m hw 97 rfl) (o_m hw 95 rfl) (o_m hw 96 rfl) e135 Y127 Y130 rfl u1_136 u2_136 u3_136 u4_136 u5_136 N_108 g_b26 (g := (o_f16 m 91 pp len (0 : Int32) (len - (0 : Int32)) tm fr [(.int (tl - (0 : Int32))), (.int (0 : Int32)), (.ref b26), (.int (0 : Int32)), (.ref tm)])) rfl (by rw [hml]; rfl) rfl rfl (hb hby o_d10_91) (o_b rfl) (o_b rfl)
 obtain ⟨f136, d_f136⟩ : ∃ z : Nat → Int64, z = (fun i => if (0 : Int32).toNatClampNeg ≤ i ∧ i < (0 : Int32).toNatClampNeg + ((tl - (0 : Int32))).toNatClampNeg then xs ((0 : Int32).toNatClampNeg + (i - (0 : Int32).toNatClampNeg)) else f26 i) := ⟨_, rfl⟩
 replace A136 : o_LA Z h136 b26 L2 f136 := A136.congr fun i _ => by rw [d_f136]; exact (apply_ite Value.long _ _ _).symm
 have Y137 := Y109.keep K136
 have Y138 := Y110.keep K136
 have Y139 := Y111.keep K136
 have Y140 := Y112.keep K136 (ninS ne27 nin0)
 have Y141 := Y113.keep K136 (ninS ne27 nin0)
 have Y142 := Fw108.keep K136 (ninS ne27 nin0)
 have Y143 := Y115.keep K136 (ninS ne27 nin0)
 have Y144 := Y116.keep K136 (ninS ne27 nin0)
 have Y145 := Y117.keep K136 (ninS ne27 nin0)
 have Y146 := Y118.keep K136 (ninS ne27 nin0)
 have Y147 := Y119.keep K136 (ninS ne27 nin0)
 have Y148 := Y120.keep K136 (ninS ne27 nin0)
 have Y149 := Y121.keep K136 (ninS ne27 nin0)
 have Y150 := Y122.keep K136 (ninS ne27 nin0)
 have Y151 := Y123.keep K136 (ninS ne27 nin0)
 have Y152 := Y124.keep K136 (ninS ne27 nin0)
 have Y153 := Y125.keep K136 (ninS ne27 nin0)
 have Y154 := Y126.keep K136 (ninS ne28 nin0)
 have Y155 := Y127.keep K136 (ninS ne30 nin0)
 have Y156 := Y128.keep K136 (ninS ne31 nin0)
 have Y157 := Y129.keep K136 (ninS ne32 nin0)
 have Y159 := Y131.keep K136 (ninS (Ne.symm ne85) nin0)
 refine o_q T136 (o_f16 m 94 pp len (0 : Int32) (len - (0 : Int32)) tm fr []) st136 ?_
 refine o_q T136 (o_f16 m 96 pp len (0 : Int32) (len - (0 : Int32)) tm fr [(.ref fr)]) (fun _ k => XS.aload X136.here hx rfl (hb hby o_d10_94) rfl rfl k) ?_
 refine o_q T136 (o_f16 m 97 pp len (0 : Int32) (len - (0 : Int32)) tm fr [(.ref pp), (.ref fr)]) (fun _ k => XS.aloadN X136.here hx rfl (hb hby o_d10_96) rfl rfl k) ?_
 obtain ⟨T160, X160, e160, st160⟩ := getF X136 hx hZ hown (host := "") (Or.inl (o_m hw 92 rfl)) Via.refl e136 Y143 (g := (o_f16 m 97 pp len (0 : Int32) (len - (0 : Int32)) tm fr [(.ref pp), (.ref fr)])) rfl rfl (hb hby o_d10_97)
 refine o_q T160 (o_f16 m 100 pp len (0 : Int32) (len - (0 : Int32)) tm fr [(.int (0 : Int32)), (.ref fr)]) st160 ?_
 refine o_q T160 (o_f16 m 101 pp len (0 : Int32) (len - (0 : Int32)) tm fr [(.ref pp), (.int (0 : Int32)), (.ref fr)]) (fun _ k => XS.aloadN X160.here hx rfl (hb hby o_d10_100) rfl rfl k) ?_
 obtain ⟨T161, X161, e161, st161⟩ := getF X160 hx hZ hown (host := "") (Or.inl (o_m hw 46 rfl)) Via.refl e160 Y142 (g := (o_f16 m 101 pp len (0 : Int32) (len - (0 : Int32)) tm fr [(.ref pp), (.int (0 : Int32)), (.ref fr)])) rfl rfl (hb hby o_d10_101)
 refine o_q T161 (o_f16 m 104 pp len (0 : Int32) (len - (0 : Int32)) tm fr [(.ref b78), (.int (0 : Int32)), (.ref fr)]) st161 ?_
 refine o_q T161 (o_f16 m 105 pp len (0 : Int32) (len - (0 : Int32)) tm fr [(.int (0 : Int32)), (.ref b78), (.int (0 : Int32)), (.ref fr)]) (fun _ k => XS.iconst X161.here hx rfl (hb hby o_d10_104) k) ?_
 refine o_q T161 (o_f16 m 106 pp len (0 : Int32) (len - (0 : Int32)) tm fr [(.ref pp), (.int (0 : Int32)), (.ref b78), (.int (0 : Int32)), (.ref fr)]) (fun _ k => XS.aloadN X161.here hx rfl (hb hby o_d10_105) rfl rfl k) ?_
 obtain ⟨T162, X162, e162, st162⟩ := getF X161 hx hZ hown (host := "") (Or.inl (o_m hw 48 rfl)) Via.refl e161 Y144 (g := (o_f16 m 106 pp len (0 : Int32) (len - (0 : Int32)) tm fr [(.ref pp), (.int (0 : Int32)), (.ref b78), (.int (0 : Int32)), (.ref fr)])) rfl rfl (hb hby o_d10_106)
 refine o_q T162 (o_f16 m 109 pp len (0 : Int32) (len - (0 : Int32)) tm fr [(.int tl), (.int (0 : Int32)), (.ref b78), (.int (0 : Int32)), (.ref fr)]) st162 ?_
 refine o_q T162 (o_f16 m 110 pp len (0 : Int32) (len - (0 : Int32)) tm fr [(.ref pp), (.int tl), (.int (0 : Int32)), (.ref b78), (.int (0 : Int32)), (.ref fr)]) (fun _ k => XS.aloadN X162.here hx rfl (hb hby o_d10_109) rfl rfl k) ?_
 obtain ⟨T163, X163, e163, st163⟩ := getF X162 hx hZ hown (host := "") (Or.inl (o_m hw 92 rfl)) Via.refl e162 Y143 (g := (o_f16 m 110 pp len (0 : Int32) (len - (0 : Int32)) tm fr [(.ref pp), (.int tl), (.int (0 : Int32)), (.ref b78), (.int (0 : Int32)), (.ref fr)])) rfl rfl (hb hby o_d10_110)
 refine o_q T163 (o_f16 m 113 pp len (0 : Int32) (len - (0 : Int32)) tm fr [(.int (0 : Int32)), (.int tl), (.int (0 : Int32)), (.ref b78), (.int (0 : Int32)), (.ref fr)]) st163 ?_
 refine o_q T163 (o_f16 m 114 pp len (0 : Int32) (len - (0 : Int32)) tm fr [(.int (tl - (0 : Int32))), (.int (0 : Int32)), (.ref b78), (.int (0 : Int32)), (.ref fr)]) (fun _ k => XS.isub X163.here hx rfl (hb hby o_d10_113) rfl k) ?_
 have u1_164 : 0 ≤ (0 : Int32).toInt := by
  have k1 : (0 : Int32).toInt = 0 := by decide
  omega
 have u2_164 : 0 ≤ (0 : Int32).toInt := by
  have k1 : (0 : Int32).toInt = 0 := by decide
  omega
 have u3_164 : 0 ≤ ((tl - (0 : Int32))).toInt := by
  have r1 := rng32 tl
  have k2 : (0 : Int32).toInt = 0 := by decide
  have e3 := c_isub (tl) ((0 : Int32))
  have r3 := rng32 ((tl - (0 : Int32)))
  rw [show (0 : Int32).toInt = 0 from by decide] at e3
  omega
 have u4_164 : (0 : Int32).toInt + ((tl - (0 : Int32))).toInt ≤ L.toInt := by
  have k1 : (0 : Int32).toInt = 0 := by decide
  have r2 := rng32 tl
  have e3 := c_isub (tl) ((0 : Int32))
  have r3 := rng32 ((tl - (0 : Int32)))
  rw [show (0 : Int32).toInt = 0 from by decide] at e3
  have r4 := rng32 L
  omega
 have u5_164 : (0 : Int32).toInt + ((tl - (0 : Int32))).toInt ≤ L2.toInt := by
  have k1 : (0 : Int32).toInt = 0 := by decide
  have r2 := rng32 tl
  have e3 := c_isub (tl) ((0 : Int32))
  have r3 := rng32 ((tl - (0 : Int32)))
  rw [show (0 : Int32).toInt = 0 from by decide] at e3
  have r4 := rng32 L2
  omega
 obtain ⟨T164, h164, L164, X164, e164, N_164, K164, A164, st164⟩ := o_cp X163 hx hZ hown (o_m hw 94 rfl) (o_m hw 97 rfl) (o_m hw 95 rfl) (o_m hw 96 rfl) e163 Y156 Y159 rfl u1_164 u2_164 u3_164 u4_164 u5_164 N_136 g_b78 (g := (o_f16 m 114 pp len (0 : Int32) (len - (0 : Int32)) tm fr [(.int (tl - (0 : Int32))), (.int (0 : Int32)), (.ref b78), (.int (0 : Int32)), (.ref fr)])) rfl (by rw [hml]; rfl) rfl rfl (hb hby o_d10_114) (o_b rfl) (o_b rfl)
 obtain ⟨f164, d_f164⟩ : ∃ z : Nat → Int32, z = (fun i => if (0 : Int32).toNatClampNeg ≤ i ∧ i < (0 : Int32).toNatClampNeg + ((tl - (0 : Int32))).toNatClampNeg then fs ((0 : Int32).toNatClampNeg + (i - (0 : Int32).toNatClampNeg)) else f78 i) := ⟨_, rfl⟩
 replace A164 : o_IA Z h164 b78 L2 f164 := A164.congr fun i _ => by rw [d_f164]; exact (apply_ite Value.int _ _ _).symm
 have Y165 := Y137.keep K164
 have Y166 := Y138.keep K164
 have Y167 := Y139.keep K164
 have Y168 := Y140.keep K164 (ninS ne79 nin0)
 have Y169 := Y141.keep K164 (ninS ne79 nin0)
 have Y170 := Y142.keep K164 (ninS ne79 nin0)
 have Y171 := Y143.keep K164 (ninS ne79 nin0)
 have Y172 := Y144.keep K164 (ninS ne79 nin0)
 have Y173 := Y145.keep K164 (ninS ne79 nin0)
 have Y174 := Y146.keep K164 (ninS ne79 nin0)
 have Y175 := Y147.keep K164 (ninS ne79 nin0)
 have Y176 := Y148.keep K164 (ninS ne79 nin0)
 have Y177 := Y149.keep K164 (ninS ne79 nin0)
 have Y178 := Y150.keep K164 (ninS ne79 nin0)
 have Y179 := Y151.keep K164 (ninS ne79 nin0)
 have Y180 := Y152.keep K164 (ninS ne79 nin0)
 have Y181 := Y153.keep K164 (ninS ne79 nin0)
 have Y182 := Y154.keep K164 (ninS ne80 nin0)
 have Y183 := Y155.keep K164 (ninS ne82 nin0)
 have Y184 := Y156.keep K164 (ninS ne83 nin0)
 have Y185 := Y157.keep K164 (ninS ne84 nin0)
 have Y186 := A136.keep K164 (ninS ne85 nin0)
 refine o_q T164 (o_f16 m 117 pp len (0 : Int32) (len - (0 : Int32)) tm fr []) st164 ?_
 refine o_q T164 (o_f16 m 118 pp len (0 : Int32) (len - (0 : Int32)) tm fr [(.ref pp)]) (fun _ k => XS.aloadN X164.here hx rfl (hb hby o_d10_117) rfl rfl k) ?_
 refine o_q T164 (o_f16 m 119 pp len (0 : Int32) (len - (0 : Int32)) tm fr [(.int (0 : Int32)), (.ref pp)]) (fun _ k => XS.iconst X164.here hx rfl (hb hby o_d10_118) k) ?_
 obtain ⟨T188, h188, X188, e188, W188, st188⟩ := putF X164 hx hZ hown (host := "") (Or.inl (o_m hw 92 rfl)) Via.refl e164 Y171 Y165 (Or.inl (o_m hw 93 rfl)) (o_m hw 8 rfl) (ty := .int) (by decide) rfl rfl (g := (o_f16 m 119 pp len (0 : Int32) (len - (0 : Int32)) tm fr [(.int (0 : Int32)), (.ref pp)])) rfl rfl (hb hby o_d10_119)
 have Fw188 := Y171.same W188
 have N_188 := Fr.snoc X188 N_164 gp1
 have Y189 := Y165.wr W188
 have Y190 := Y166.wr W188
 have Y191 := Y167.wr W188
 have Y192 := Y168.other W188 (o_sn (Or.inr (o_m hw 41 rfl)) (Or.inl (o_m hw 93 rfl)))
 have Y193 := Y169.other W188 (o_sn (Or.inl (o_m hw 44 rfl)) (Or.inl (o_m hw 93 rfl)))
 have Y194 := Y170.other W188 (o_sn (Or.inl (o_m hw 47 rfl)) (Or.inl (o_m hw 93 rfl)))
 have Y196 := Y172.other W188 (o_sn (Or.inl (o_m hw 49 rfl)) (Or.inl (o_m hw 93 rfl)))
 have Y197 := Y173.other W188 (o_sn (Or.inl (o_m hw 106 rfl)) (Or.inl (o_m hw 93 rfl)))
 have Y198 := Y174.other W188 (o_sn (Or.inr (o_m hw 26 rfl)) (Or.inl (o_m hw 93 rfl)))
 have Y199 := Y175.other W188 (o_sn (Or.inl (o_m hw 64 rfl)) (Or.inl (o_m hw 93 rfl)))
 have Y200 := Y176.other W188 (o_sn (Or.inl (o_m hw 39 rfl)) (Or.inl (o_m hw 93 rfl)))
 have Y201 := Y177.other W188 (o_sn (Or.inl (o_m hw 66 rfl)) (Or.inl (o_m hw 93 rfl)))
 have Y202 := Y178.other W188 (o_sn (Or.inl (o_m hw 78 rfl)) (Or.inl (o_m hw 93 rfl)))
 have Y203 := Y179.other W188 (o_sn (Or.inl (o_m hw 132 rfl)) (Or.inl (o_m hw 93 rfl)))
 have Y204 := Y180.other W188 (o_sn (Or.inl (o_m hw 166 rfl)) (Or.inl (o_m hw 93 rfl)))
 have Y205 := Y181.other W188 (o_sn (Or.inr (o_m hw 35 rfl)) (Or.inl (o_m hw 93 rfl)))
 have Y206 := Y182.other W188 (Or.inl (Ne.symm ne2))
 have Y207 := Y183.other W188 (Ne.symm ne3)
 have Y208 := Y184.other W188 (Ne.symm ne5)
 have Y209 := Y185.other W188 (Ne.symm ne7)
 have Y210 := Y186.other W188 (Ne.symm ne27)
 have Y211 := A164.other W188 (Ne.symm ne79)
 refine o_q T188 (o_f16 m 122 pp len (0 : Int32) (len - (0 : Int32)) tm fr []) st188 ?_
 refine o_q T188 (o_f16 m 123 pp len (0 : Int32) (len - (0 : Int32)) tm fr [(.ref pp)]) (fun _ k => XS.aloadN X188.here hx rfl (hb hby o_d10_122) rfl rfl k) ?_
 refine o_q T188 (o_f16 m 124 pp len (0 : Int32) (len - (0 : Int32)) tm fr [(.ref pp), (.ref pp)]) (fun _ k => XS.dup X188.here hx rfl (hb hby o_d10_123) rfl rfl k) ?_
 obtain ⟨T212, X212, e212, st212⟩ := getF X188 hx hZ hown (host := "") (Or.inl (o_m hw 48 rfl)) Via.refl e188 Y196 (g := (o_f16 m 124 pp len (0 : Int32) (len - (0 : Int32)) tm fr [(.ref pp), (.ref pp)])) rfl rfl (hb hby o_d10_124)
 refine o_q T212 (o_f16 m 127 pp len (0 : Int32) (len - (0 : Int32)) tm fr [(.int tl), (.ref pp)]) st212 ?_
 refine o_q T212 (o_f16 m 128 pp len (0 : Int32) (len - (0 : Int32)) tm fr [(.int (0 : Int32)), (.int tl), (.ref pp)]) (fun _ k => XS.iloadN X212.here hx rfl (hb hby o_d10_127) rfl k) ?_
 refine o_q T212 (o_f16 m 129 pp len (0 : Int32) (len - (0 : Int32)) tm fr [(.int (tl - (0 : Int32))), (.ref pp)]) (fun _ k => XS.isub X212.here hx rfl (hb hby o_d10_128) rfl k) ?_
 obtain ⟨T213, h213, X213, e213, W213, st213⟩ := putF X212 hx hZ hown (host := "") (Or.inl (o_m hw 48 rfl)) Via.refl e212 Y196 Y189 (Or.inl (o_m hw 49 rfl)) (o_m hw 8 rfl) (ty := .int) (by decide) rfl rfl (g := (o_f16 m 129 pp len (0 : Int32) (len - (0 : Int32)) tm fr [(.int (tl - (0 : Int32))), (.ref pp)])) rfl rfl (hb hby o_d10_129)
 have Fw213 := Y196.same W213
 have N_213 := Fr.snoc X213 N_188 gp1
 have Y214 := Y189.wr W213
 have Y215 := Y190.wr W213
 have Y216 := Y191.wr W213
 have Y217 := Y192.other W213 (o_sn (Or.inr (o_m hw 41 rfl)) (Or.inl (o_m hw 49 rfl)))
 have Y218 := Y193.other W213 (o_sn (Or.inl (o_m hw 44 rfl)) (Or.inl (o_m hw 49 rfl)))
 have Y219 := Y194.other W213 (o_sn (Or.inl (o_m hw 47 rfl)) (Or.inl (o_m hw 49 rfl)))
 have Y220 := Fw188.other W213 (o_sn (Or.inl (o_m hw 93 rfl)) (Or.inl (o_m hw 49 rfl)))
 have Y222 := Y197.other W213 (o_sn (Or.inl (o_m hw 106 rfl)) (Or.inl (o_m hw 49 rfl)))
 have Y223 := Y198.other W213 (o_sn (Or.inr (o_m hw 26 rfl)) (Or.inl (o_m hw 49 rfl)))
 have Y224 := Y199.other W213 (o_sn (Or.inl (o_m hw 64 rfl)) (Or.inl (o_m hw 49 rfl)))
 have Y225 := Y200.other W213 (o_sn (Or.inl (o_m hw 39 rfl)) (Or.inl (o_m hw 49 rfl)))
 have Y226 := Y201.other W213 (o_sn (Or.inl (o_m hw 66 rfl)) (Or.inl (o_m hw 49 rfl)))
 have Y227 := Y202.other W213 (o_sn (Or.inl (o_m hw 78 rfl)) (Or.inl (o_m hw 49 rfl)))
 have Y228 := Y203.other W213 (o_sn (Or.inl (o_m hw 132 rfl)) (Or.inl (o_m hw 49 rfl)))
 have Y229 := Y204.other W213 (o_sn (Or.inl (o_m hw 166 rfl)) (Or.inl (o_m hw 49 rfl)))
 have Y230 := Y205.other W213 (o_sn (Or.inr (o_m hw 35 rfl)) (Or.inl (o_m hw 49 rfl)))
 have Y231 := Y206.other W213 (Or.inl (Ne.symm ne2))
 have Y232 := Y207.other W213 (Ne.symm ne3)
 have Y233 := Y208.other W213 (Ne.symm ne5)
 have Y234 := Y209.other W213 (Ne.symm ne7)
 have Y235 := Y210.other W213 (Ne.symm ne27)
 have Y236 := Y211.other W213 (Ne.symm ne79)
 refine o_q T213 (o_f16 m 132 pp len (0 : Int32) (len - (0 : Int32)) tm fr []) st213 ?_
 have tz : tl - (0 : Int32) = tl := Int32.sub_zero tl
 have Ft237 := Fw213
 rw [tz] at Ft237
 refine o_q T213 (o_f16 m 133 pp len (0 : Int32) (len - (0 : Int32)) tm fr [(.ref pp)]) (fun _ k => XS.aloadN X213.here hx rfl (hb hby o_d10_132) rfl rfl k) ?_
 obtain ⟨T238, X238, e238, st238⟩ := getF X213 hx hZ hown (host := "") (Or.inl (o_m hw 25 rfl)) Via.refl e213 Y223 (g := (o_f16 m 133 pp len (0 : Int32) (len - (0 : Int32)) tm fr [(.ref pp)])) rfl rfl (hb hby o_d10_133)
 refine o_q T238 (o_f16 m 136 pp len (0 : Int32) (len - (0 : Int32)) tm fr [(.ref ru)]) st238 ?_
 have hP239 : o_Pr Z n0 pp rc ru wa b26 b78 tl la L2 ch gb f136 f164 rs h213 := ⟨Y214, Y215, Y216, Y217, Y218, Y219, Y220, Ft237, Y222, Y223, Y224, Y225, Y226, Y227, Y228, Y229, Y230, Y231, Y235, Y236, Y234, (Ne.symm ne32), wl1, gp1, g_b26, g_b78, gr1, gu1⟩
 obtain ⟨v240, T240, L240, hQ240, X240, st240⟩ := o_callV X238 hx hZ e238 hown (o_m hw 143 rfl) (o_m hw 144 rfl) (o_m hw 146 rfl) (o_m hw 145 rfl) (by decide) (b := ru) Y215 (o_m hw 147 rfl) (o_m hw 18 rfl) (o_moved l Z a0 hw n0 pp rc ru wa b26 b78 tl la L2 ch gb f136 f164 rs  h213 hP239 ) (g := (o_f16 m 136 pp len (0 : Int32) (len - (0 : Int32)) tm fr [(.ref ru)])) rfl (by rw [hml]; rfl) rfl (argsL := []) (rest := []) rfl (lenOf o_pd0 rfl) rfl (hb hby o_d10_136) (o_b rfl) (o_b rfl) (o_b rfl) (o_b rfl)
 obtain ⟨h240, e240⟩ : ∃ z, T240.heap = z := ⟨_, rfl⟩
 rw [e240] at hQ240
 obtain ⟨rfl, N240, hR240⟩ := hQ240
 have N_240 := Fr.app N_213 N240
 obtain ⟨Ep241, Er241, Ew241, F241_cpus, F241_times, F241_free, F241_head, F241_tail, F241_lastAt, F241_runs, F241_firstKnown, F241_watcher, F241_watchedAs, F241_changes, F241_merged, F241_gaveBack, F241_recent, Fn241, At241, Af241, Ar241, nt241, wl241, gp241, gt241, gf241, gr241, gu241⟩ := hR240
 have ne242 : o_ne pp ru := Ep241.ne Er241 (by decide)
 have ne243 : o_ne pp b26 := At241.neExa Ep241 (o_m hw 8 rfl)
 have ne244 : o_ne ru b26 := At241.neExa Er241 (o_m hw 17 rfl)
 have ne245 : o_ne pp b78 := Af241.neExa Ep241 (o_m hw 8 rfl)
 have ne246 : o_ne ru b78 := Af241.neExa Er241 (o_m hw 17 rfl)
 have ne247 : o_ne pp rc := Ar241.neExa Ep241 (o_m hw 8 rfl)
 have ne248 : o_ne ru rc := Ar241.neExa Er241 (o_m hw 17 rfl)
 have ne249 : o_ne wa pp := Nat.ne_of_lt (Nat.lt_of_lt_of_le wl241 gp241)
 have ne250 : o_ne wa b26 := Nat.ne_of_lt (Nat.lt_of_lt_of_le wl241 gt241)
 have ne251 : o_ne wa b78 := Nat.ne_of_lt (Nat.lt_of_lt_of_le wl241 gf241)
 have ne252 : o_ne wa rc := Nat.ne_of_lt (Nat.lt_of_lt_of_le wl241 gr241)
 have ne253 : o_ne wa ru := Nat.ne_of_lt (Nat.lt_of_lt_of_le wl241 gu241)
 have ne254 : o_ne b26 b78 := At241.ne Af241 (by intro q; cases q)
 have ne255 : o_ne b78 rc := Af241.ne Ar241 (by intro q; cases q)
 refine o_q T240 (o_f16 m 139 pp len (0 : Int32) (len - (0 : Int32)) tm fr []) st240 ?_
 refine o_q T240 (o_f16 m 140 pp len (0 : Int32) (len - (0 : Int32)) tm fr [(.int (0 : Int32))]) (fun _ k => XS.iloadN X240.here hx rfl (hb hby o_d10_139) rfl k) ?_
 have hP256 : o_Pr Z n0 pp rc ru wa b26 b78 tl la L2 ch gb f136 f164 rs h240 := ⟨Ep241, Er241, Ew241, F241_cpus, F241_times, F241_free, F241_head, F241_tail, F241_lastAt, F241_runs, F241_firstKnown, F241_watcher, F241_watchedAs, F241_changes, F241_merged, F241_gaveBack, F241_recent, Fn241, At241, Af241, Ar241, nt241, wl241, gp241, gt241, gf241, gr241, gu241⟩
 have ma257 : ((tl - (0 : Int32))).toNatClampNeg = tl.toNatClampNeg := by
  have r1 := rng32 tl
  have k2 : (0 : Int32).toInt = 0 := by decide
  have e3 := c_isub (tl) ((0 : Int32))
  have r3 := rng32 ((tl - (0 : Int32)))
  rw [show (0 : Int32).toInt = 0 from by decide] at e3
  have n0 := o_nat (tl) (by omega)
  have n1 := o_nat ((tl - (0 : Int32))) (by omega)
  omega
 have K258 : ∀ i, i < tl.toNatClampNeg → f136 i = xs i := fun i hi => by rw [d_f136]; dsimp only; rw [ma257, show (0 : Int32).toNatClampNeg = 0 from rfl, if_pos (by omega)]; congr 1; omega
 have K259 : ∀ i, i < tl.toNatClampNeg → f164 i = fs i := fun i hi => by rw [d_f164]; dsimp only; rw [ma257, show (0 : Int32).toNatClampNeg = 0 from rfl, if_pos (by omega)]; congr 1; omega
 refine o_retI X240 hx hlk hret (hb hby o_d10_140) ?_ (o_b rfl) (o_b rfl)
 rw [e240]
 exact ⟨b26, b78, f136, f164, rfl, N_240, hP256, K258, K259⟩
theorem o_vv_m1 (x v : Int32) (lo hi : Int) (bb : lo ≤ x.toInt ∧ x.toInt ≤ hi) (q5 : 0 ≤ lo + (-1)) (q6 : hi + (-1) ≤ 16) (ev : v = x + (-1 : Int32)) : v.toInt = x.toInt + (-1) ∧ 0 ≤ v.toInt ∧ v.toInt ≤ 16 := by
 have e1 : (x + (-1 : Int32)).toInt = x.toInt + (-1) := by
  rw [Jvm.Free.XT.add32 ⟨by rw [show (-1 : Int32).toInt = -1 from by decide]; omega, by rw [show (-1 : Int32).toInt = -1 from by decide]; omega⟩]; rw [show (-1 : Int32).toInt = -1 from by decide]
 rw [ev, e1]
 omega
theorem o_d7_110 : decode o_y12 110 = .ok (.iload 9, 2) := by decide +kernel
theorem o_d7_112 : decode o_y12 112 = .ok (.iload 8, 2) := by decide +kernel
theorem o_d7_114 : decode o_y12 114 = .ok (.if_icmp .ge 39, 3) := by decide +kernel
theorem o_d7_117 : decode o_y12 117 = .ok (.aload_n 0, 1) := by decide +kernel
theorem o_d7_118 : decode o_y12 118 = .ok (.getfield 49, 3) := by decide +kernel
theorem o_d7_121 : decode o_y12 121 = .ok (.iload 9, 2) := by decide +kernel
theorem o_d7_123 : decode o_y12 123 = .ok (.dup2, 1) := by decide +kernel
theorem o_d7_124 : decode o_y12 124 = .ok (.iaload, 1) := by decide +kernel
theorem o_d7_125 : decode o_y12 125 = .ok (.iload 5, 2) := by decide +kernel
theorem o_d7_127 : decode o_y12 127 = .ok (.iadd, 1) := by decide +kernel
theorem o_d7_128 : decode o_y12 128 = .ok (.iastore, 1) := by decide +kernel
theorem o_d7_129 : decode o_y12 129 = .ok (.aload_n 0, 1) := by decide +kernel
theorem o_d7_130 : decode o_y12 130 = .ok (.aload_n 0, 1) := by decide +kernel
theorem o_d7_131 : decode o_y12 131 = .ok (.getfield 49, 3) := by decide +kernel
theorem o_d7_134 : decode o_y12 134 = .ok (.iload 9, 2) := by decide +kernel
theorem o_d7_136 : decode o_y12 136 = .ok (.iaload, 1) := by decide +kernel
theorem o_d7_137 : decode o_y12 137 = .ok (.aload_n 0, 1) := by decide +kernel
theorem o_d7_138 : decode o_y12 138 = .ok (.getfield 46, 3) := by decide +kernel
theorem o_d7_141 : decode o_y12 141 = .ok (.iload 9, 2) := by decide +kernel
theorem o_d7_143 : decode o_y12 143 = .ok (.laload, 1) := by decide +kernel
theorem o_d7_144 : decode o_y12 144 = .ok (.invokevirtual 237, 3) := by decide +kernel
theorem o_d16_0 : decode o_y13 0 = .ok (.iload_n 1, 1) := by decide +kernel
theorem o_d16_1 : decode o_y13 1 = .ok (.ifCond .lt 11, 3) := by decide +kernel
theorem o_d16_4 : decode o_y13 4 = .ok (.iload_n 1, 1) := by decide +kernel
theorem o_d16_5 : decode o_y13 5 = .ok (.aload_n 0, 1) := by decide +kernel
theorem o_d16_6 : decode o_y13 6 = .ok (.getfield 40, 3) := by decide +kernel
theorem o_d16_9 : decode o_y13 9 = .ok (.if_icmp .le 22, 3) := by decide +kernel
theorem o_d16_31 : decode o_y13 31 = .ok (.return_, 1) := by decide +kernel
theorem o_pn16 : plainFor (⟨o_n1, "check", "(IJ)V"⟩ : MethodName) = true := plainFor_of_name (by first | (simp [plainName, overriddenIn]; done) | decide +kernel)
set_option maxRecDepth 65536 in
set_option maxHeartbeats 40000000 in
theorem o_k16_6 (l : Launch) (Z : State) (a0 : Array Value) (hw : ∀ d ∈ tables_1, d.before a0 Z = true) (p0 : Addr) (p1 : Int32) (p2 : Int64) (h0 : Heap) (H0 : ¬ (p1 < (0 : Int32))) (H1 : Fld Z h0 p0 o_n1 "cpus" "I" (.int (16 : Int32))) (H2 : ¬ ((16 : Int32) < p1)) :
  o_C l (⟨o_n1, "check", "(IJ)V"⟩ : MethodName) o_y13 4 none (o_R 0 0 0 0) Z h0 #[(.ref p0), (.int p1), (.long p2)] (o_P none h0) := by
 refine o_body o_pn16 ?_
 intro p e s m below meth c s₁ hx hby hml hZ hown hnm hret hlk X0 e0
 refine o_cast (f' := (o_f17 m 0 p0 p1 p2 [])) (by first | (simp [entryFrame, mkF, argsToLocals, Value.category, maxLocals]; done) | rfl) ?_
 refine o_q s₁ (o_f17 m 1 p0 p1 p2 [(.int p1)]) (fun _ k => XS.iloadN X0.here hx rfl (hb hby o_d16_0) rfl k) ?_
 refine o_q s₁ (o_f17 m 4 p0 p1 p2 []) (fun _ k => XS.ifNo X0.here hx rfl (hb hby o_d16_1) rfl ((if0 _ _).trans (flt H0).1) k) ?_
 refine o_q s₁ (o_f17 m 5 p0 p1 p2 [(.int p1)]) (fun _ k => XS.iloadN X0.here hx rfl (hb hby o_d16_4) rfl k) ?_
 refine o_q s₁ (o_f17 m 6 p0 p1 p2 [(.ref p0), (.int p1)]) (fun _ k => XS.aloadN X0.here hx rfl (hb hby o_d16_5) rfl rfl k) ?_
 obtain ⟨T1, X1, e1, st1⟩ := getF X0 hx hZ hown (host := "") (Or.inl (o_m hw 40 rfl)) Via.refl e0 H1 (g := (o_f17 m 6 p0 p1 p2 [(.ref p0), (.int p1)])) rfl rfl (hb hby o_d16_6)
 refine o_q T1 (o_f17 m 9 p0 p1 p2 [(.int (16 : Int32)), (.int p1)]) st1 ?_
 refine o_q T1 (o_f17 m 31 p0 p1 p2 []) (fun _ k => XS.icmpYes X1.here hx rfl (pc0 := 9) (pc' := 31) rfl (hb hby o_d16_9) rfl (flt H2).2.2.2 (by decide) (by decide) k) ?_
 exact o_retV X1 hx hlk hret (hb hby o_d16_31) ⟨rfl, rfl, e1⟩ (by decide) (by decide)
theorem o_pd6 : parseMethodDescriptor "(IJ)V" = some ⟨[.int, .long], none⟩ := by decide +kernel
theorem o_d7_147 : decode o_y12 147 = .ok (.iinc 9 1, 3) := by decide +kernel
theorem o_d7_150 : decode o_y12 150 = .ok (.goto (-40), 3) := by decide +kernel
theorem o_d7_153 : decode o_y12 153 = .ok (.aload_n 0, 1) := by decide +kernel
theorem o_d7_154 : decode o_y12 154 = .ok (.getfield 14, 3) := by decide +kernel
theorem o_d7_157 : decode o_y12 157 = .ok (.iload 7, 2) := by decide +kernel
theorem o_d7_159 : decode o_y12 159 = .ok (.iload 8, 2) := by decide +kernel
theorem o_d7_161 : decode o_y12 161 = .ok (.invokevirtual 286, 3) := by decide +kernel
theorem o_d17_0 : decode o_y14 0 = .ok (.aload_n 0, 1) := by decide +kernel
theorem o_d17_1 : decode o_y14 1 = .ok (.getfield 15, 3) := by decide +kernel
theorem o_d17_4 : decode o_y14 4 = .ok (.ifnull 8, 3) := by decide +kernel
theorem o_d17_12 : decode o_y14 12 = .ok (.return_, 1) := by decide +kernel
theorem o_pn17 : plainFor (⟨o_n3, "changed", "(II)V"⟩ : MethodName) = true := plainFor_of_name (by first | (simp [plainName, overriddenIn]; done) | decide +kernel)
set_option maxRecDepth 65536 in
set_option maxHeartbeats 40000000 in
theorem o_k17_7 (l : Launch) (Z : State) (a0 : Array Value) (hw : ∀ d ∈ tables_1, d.before a0 Z = true) (p0 : Addr) (p1 : Int32) (p2 : Int32) (h0 : Heap) (H0 : Fld Z h0 p0 o_n3 "nodes" "[[J" .null) :
  o_C l (⟨o_n3, "changed", "(II)V"⟩ : MethodName) o_y14 4 none (o_R 0 0 0 0) Z h0 #[(.ref p0), (.int p1), (.int p2)] (o_P none h0) := by
 refine o_body o_pn17 ?_
 intro p e s m below meth c s₁ hx hby hml hZ hown hnm hret hlk X0 e0
 refine o_cast (f' := (o_f18 m 0 p0 p1 p2 [])) (by first | (simp [entryFrame, mkF, argsToLocals, Value.category, maxLocals]; done) | rfl) ?_
 refine o_q s₁ (o_f18 m 1 p0 p1 p2 [(.ref p0)]) (fun _ k => XS.aloadN X0.here hx rfl (hb hby o_d17_0) rfl rfl k) ?_
 obtain ⟨T1, X1, e1, st1⟩ := getF X0 hx hZ hown (host := "") (Or.inl (o_m hw 103 rfl)) Via.refl e0 H0 (g := (o_f18 m 1 p0 p1 p2 [(.ref p0)])) rfl rfl (hb hby o_d17_1)
 refine o_q T1 (o_f18 m 4 p0 p1 p2 [.null]) st1 ?_
 refine o_q T1 (o_f18 m 12 p0 p1 p2 []) (fun _ k => XS.ifnullYes X1.here hx rfl (pc0 := 4) (pc' := 12) rfl (hb hby o_d17_4) rfl (by decide) (by decide) k) ?_
 exact o_retV X1 hx hlk hret (hb hby o_d17_12) ⟨rfl, rfl, e1⟩ (by decide) (by decide)
theorem o_pd4 : parseMethodDescriptor "(II)V" = some ⟨[.int, .int], none⟩ := by decide +kernel
theorem o_d7_164 : decode o_y12 164 = .ok (.aload_n 0, 1) := by decide +kernel
theorem o_d7_165 : decode o_y12 165 = .ok (.iload 8, 2) := by decide +kernel
theorem o_d7_167 : decode o_y12 167 = .ok (.invokevirtual 290, 3) := by decide +kernel
theorem o_d7_170 : decode o_y12 170 = .ok (.aload_n 0, 1) := by decide +kernel
theorem o_d7_171 : decode o_y12 171 = .ok (.iload 7, 2) := by decide +kernel
theorem o_d7_173 : decode o_y12 173 = .ok (.invokevirtual 290, 3) := by decide +kernel
theorem o_d7_176 : decode o_y12 176 = .ok (.return_, 1) := by decide +kernel
set_option maxRecDepth 65536 in
set_option maxHeartbeats 40000000 in
theorem o_addN_m1_loop {p : Program} {l : Launch} {e : Env} {s : State} {m : MethodId} {below : List Frame} {meth : Method} {c : Code} (Z : State) (a0 : Array Value) (hw : ∀ d ∈ tables_1, d.before a0 Z = true) (n0 : Nat) (pp rc ru wa tmx frx : Addr) (tlx lax L : Int32) (chx gbx : Int64) (xsx : Nat → Int64) (rsx : Nat → Int64) (kp fst aft : Int32) (start ending : Int64) (lo hi lo1 hi1 : Int) (i1 : 1 ≤ tlx.toInt) (i2 : tlx.toInt ≤ L.toInt) (i3 : L.toInt ≤ 32) (f1 : aft.toInt < tlx.toInt) (f2 : 0 ≤ aft.toInt) (f3 : 0 ≤ fst.toInt) (Dd : o_D lo hi lo1 hi1 (-1))
  (hx : p.tables.exec = Jvm.exec) (hby : c.code = o_y12) (hml : c.maxLocals = 10) (hZ : Z.Warmed39 s.vm) (hown : s.vm.findClass o_n1 = some m.cls) (hret : meth.sig.returnType = none) (hlk : meth.locks = false) :
  ∀ (k : Nat) (kk : Int32) (fsc : Nat → Int32) (locs : List Loc) (hh : Heap) {T : State} (X0 : Stand p l e (o_R 5 0 0 100) s m #[(.ref pp), (.long start), (.long ending), (.int (-1 : Int32))] below meth c T locs 0 0) (e0 : T.heap = hh), Fr n0 locs → o_Pr Z n0 pp rc ru wa tmx frx tlx lax L chx gbx xsx fsc rsx hh → kk.toInt ≤ 33 → 0 ≤ kk.toInt → aft.toInt - kk.toInt + 40 ≤ (k : Int) → o_S lo1 hi1 tlx.toNatClampNeg xsx fsc → (∀ j, kk.toNatClampNeg ≤ j → j + 1 < tlx.toNatClampNeg → lo ≤ (fsc j).toInt ∧ (fsc j).toInt ≤ hi) → o_G p e below s (fun v h Ls => ∃ (tl' : Int32) (xs' : Nat → Int64) (fs' : Nat → Int32), v = none ∧ Fr n0 Ls ∧ o_Pr Z n0 pp rc ru wa tmx frx tl' lax L chx gbx xs' fs' rsx h ∧ 1 ≤ tl'.toInt ∧ tl'.toInt ≤ tlx.toInt ∧ xs' 0 = xsx 0 ∧ o_S lo1 hi1 tl'.toNatClampNeg xs' fs') 0 0 T (o_f19 m 110 pp start ending (-1 : Int32) kp fst aft kk []) := by
 intro k
 induction k with
 | zero => intro kk fsc locs hh T X0 e0 NL hP g1 g0 g2 Sx Uk; exfalso; omega
 | succ k ih =>
 intro kk fsc locs hh T X0 e0 NL hP g1 g0 g2 Sx Uk
 obtain ⟨Ep1, Er1, Ew1, F1_cpus, F1_times, F1_free, F1_head, F1_tail, F1_lastAt, F1_runs, F1_firstKnown, F1_watcher, F1_watchedAs, F1_changes, F1_merged, F1_gaveBack, F1_recent, Fn1, At1, Af1, Ar1, nt1, wl1, gp1, gt1, gf1, gr1, gu1⟩ := hP
 have ne2 : o_ne pp ru := Ep1.ne Er1 (by decide)
 have ne3 : o_ne pp tmx := At1.neExa Ep1 (o_m hw 8 rfl)
 have ne4 : o_ne ru tmx := At1.neExa Er1 (o_m hw 17 rfl)
 have ne5 : o_ne pp frx := Af1.neExa Ep1 (o_m hw 8 rfl)
 have ne6 : o_ne ru frx := Af1.neExa Er1 (o_m hw 17 rfl)
 have ne7 : o_ne pp rc := Ar1.neExa Ep1 (o_m hw 8 rfl)
 have ne8 : o_ne ru rc := Ar1.neExa Er1 (o_m hw 17 rfl)
 have ne9 : o_ne wa pp := Nat.ne_of_lt (Nat.lt_of_lt_of_le wl1 gp1)
 have ne10 : o_ne wa tmx := Nat.ne_of_lt (Nat.lt_of_lt_of_le wl1 gt1)
 have ne11 : o_ne wa frx := Nat.ne_of_lt (Nat.lt_of_lt_of_le wl1 gf1)
 have ne12 : o_ne wa rc := Nat.ne_of_lt (Nat.lt_of_lt_of_le wl1 gr1)
 have ne13 : o_ne wa ru := Nat.ne_of_lt (Nat.lt_of_lt_of_le wl1 gu1)
 have ne14 : o_ne tmx frx := At1.ne Af1 (by intro q; cases q)
 have ne15 : o_ne frx rc := Af1.ne Ar1 (by intro q; cases q)
 refine o_q T (o_f19 m 112 pp start ending (-1 : Int32) kp fst aft kk [(.int kk)]) (fun _ k => XS.iload X0.here hx rfl (hb hby o_d7_110) rfl k) ?_
 refine o_q T (o_f19 m 114 pp start ending (-1 : Int32) kp fst aft kk [(.int aft), (.int kk)]) (fun _ k => XS.iload X0.here hx rfl (hb hby o_d7_112) rfl k) ?_
 by_cases c0 : kk < aft
 ·refine o_q T (o_f19 m 117 pp start ending (-1 : Int32) kp fst aft kk []) (fun _ k => XS.icmpNo X0.here hx rfl (hb hby o_d7_114) rfl (tlt c0).2.1 k) ?_
  refine o_q T (o_f19 m 118 pp start ending (-1 : Int32) kp fst aft kk [(.ref pp)]) (fun _ k => XS.aloadN X0.here hx rfl (hb hby o_d7_117) rfl rfl k) ?_
  obtain ⟨T16, X16, e16, st16⟩ := getF X0 hx hZ hown (host := "") (Or.inl (o_m hw 46 rfl)) Via.refl e0 F1_free (g := (o_f19 m 118 pp start ending (-1 : Int32) kp fst aft kk [(.ref pp)])) rfl rfl (hb hby o_d7_118)
  refine o_q T16 (o_f19 m 121 pp start ending (-1 : Int32) kp fst aft kk [(.ref frx)]) st16 ?_
  refine o_q T16 (o_f19 m 123 pp start ending (-1 : Int32) kp fst aft kk [(.int kk), (.ref frx)]) (fun _ k => XS.iload X16.here hx rfl (hb hby o_d7_121) rfl k) ?_
  refine o_q T16 (o_f19 m 124 pp start ending (-1 : Int32) kp fst aft kk [(.int kk), (.ref frx), (.int kk), (.ref frx)]) (fun _ k => Jvm.Free.XT.dup2 X16.here hx rfl (hb hby o_d7_123) rfl rfl rfl k) ?_
  have hin17 : ¬ (kk < (0 : Int32)) ∧ kk < L := by
   have r1 := rng32 kk
   have r2 := rng32 L
   have k3 : (0 : Int32).toInt = 0 := by decide
   have r4 := rng32 aft
   have d0 : kk.toInt < aft.toInt := Int32.lt_iff_toInt_lt.mp c0
   rw [Int32.lt_iff_toInt_lt, Int32.lt_iff_toInt_lt]
   omega
  refine o_q T16 (o_f19 m 125 pp start ending (-1 : Int32) kp fst aft kk [(.int (fsc kk.toNatClampNeg)), (.int kk), (.ref frx)]) (fun _ k => o_ldI X16 hx hZ e16 Af1 hin17 (g := (o_f19 m 124 pp start ending (-1 : Int32) kp fst aft kk [(.int kk), (.ref frx), (.int kk), (.ref frx)])) rfl rfl (hb hby o_d7_124) _ k) ?_
  refine o_q T16 (o_f19 m 127 pp start ending (-1 : Int32) kp fst aft kk [(.int (-1 : Int32)), (.int (fsc kk.toNatClampNeg)), (.int kk), (.ref frx)]) (fun _ k => XS.iload X16.here hx rfl (hb hby o_d7_125) rfl k) ?_
  refine o_q T16 (o_f19 m 128 pp start ending (-1 : Int32) kp fst aft kk [(.int ((fsc kk.toNatClampNeg) + (-1 : Int32))), (.int kk), (.ref frx)]) (fun _ k => XS.iadd X16.here hx rfl (hb hby o_d7_127) rfl k) ?_
  have hin18 : ¬ (kk < (0 : Int32)) ∧ kk < L := by
   have r1 := rng32 kk
   have r2 := rng32 L
   have k3 : (0 : Int32).toInt = 0 := by decide
   have r4 := rng32 aft
   have d0 : kk.toInt < aft.toInt := Int32.lt_iff_toInt_lt.mp c0
   rw [Int32.lt_iff_toInt_lt, Int32.lt_iff_toInt_lt]
   omega
  obtain ⟨T19, h19, X19, e19, W19, A19, st19⟩ := o_stI X16 hx hZ e16 Af1 hin18 (g := (o_f19 m 128 pp start ending (-1 : Int32) kp fst aft kk [(.int ((fsc kk.toNatClampNeg) + (-1 : Int32))), (.int kk), (.ref frx)])) rfl rfl (hb hby o_d7_128)
  obtain ⟨f19, d_f19⟩ : ∃ z : Nat → Int32, z = (fun i => if i = kk.toNatClampNeg then ((fsc kk.toNatClampNeg) + (-1 : Int32)) else fsc i) := ⟨_, rfl⟩
  rw [← d_f19] at A19
  have N_19 := Fr.snoc X19 NL gf1
  have Y20 := Ep1.wr W19
  have Y21 := Er1.wr W19
  have Y22 := Ew1.wr W19
  have Y23 := F1_cpus.other W19 (Or.inl ne5)
  have Y24 := F1_times.other W19 (Or.inl ne5)
  have Y25 := F1_free.other W19 (Or.inl ne5)
  have Y26 := F1_head.other W19 (Or.inl ne5)
  have Y27 := F1_tail.other W19 (Or.inl ne5)
  have Y28 := F1_lastAt.other W19 (Or.inl ne5)
  have Y29 := F1_runs.other W19 (Or.inl ne5)
  have Y30 := F1_firstKnown.other W19 (Or.inl ne5)
  have Y31 := F1_watcher.other W19 (Or.inl ne5)
  have Y32 := F1_watchedAs.other W19 (Or.inl ne5)
  have Y33 := F1_changes.other W19 (Or.inl ne5)
  have Y34 := F1_merged.other W19 (Or.inl ne5)
  have Y35 := F1_gaveBack.other W19 (Or.inl ne5)
  have Y36 := F1_recent.other W19 (Or.inl ne5)
  have Y37 := Fn1.other W19 (Or.inl ne6)
  have Y38 := At1.other W19 ne14
  have Y40 := Ar1.other W19 (Ne.symm ne15)
  refine o_q T19 (o_f19 m 129 pp start ending (-1 : Int32) kp fst aft kk []) st19 ?_
  refine o_q T19 (o_f19 m 130 pp start ending (-1 : Int32) kp fst aft kk [(.ref pp)]) (fun _ k => XS.aloadN X19.here hx rfl (hb hby o_d7_129) rfl rfl k) ?_
  refine o_q T19 (o_f19 m 131 pp start ending (-1 : Int32) kp fst aft kk [(.ref pp), (.ref pp)]) (fun _ k => XS.aloadN X19.here hx rfl (hb hby o_d7_130) rfl rfl k) ?_
  obtain ⟨T41, X41, e41, st41⟩ := getF X19 hx hZ hown (host := "") (Or.inl (o_m hw 46 rfl)) Via.refl e19 Y25 (g := (o_f19 m 131 pp start ending (-1 : Int32) kp fst aft kk [(.ref pp), (.ref pp)])) rfl rfl (hb hby o_d7_131)
  refine o_q T41 (o_f19 m 134 pp start ending (-1 : Int32) kp fst aft kk [(.ref frx), (.ref pp)]) st41 ?_
  refine o_q T41 (o_f19 m 136 pp start ending (-1 : Int32) kp fst aft kk [(.int kk), (.ref frx), (.ref pp)]) (fun _ k => XS.iload X41.here hx rfl (hb hby o_d7_134) rfl k) ?_
  have hin42 : ¬ (kk < (0 : Int32)) ∧ kk < L := by
   have r1 := rng32 kk
   have r2 := rng32 L
   have k3 : (0 : Int32).toInt = 0 := by decide
   have r4 := rng32 aft
   have d0 : kk.toInt < aft.toInt := Int32.lt_iff_toInt_lt.mp c0
   rw [Int32.lt_iff_toInt_lt, Int32.lt_iff_toInt_lt]
   omega
  refine o_q T41 (o_f19 m 137 pp start ending (-1 : Int32) kp fst aft kk [(.int (f19 kk.toNatClampNeg)), (.ref pp)]) (fun _ k => o_ldI X41 hx hZ e41 A19 hin42 (g := (o_f19 m 136 pp start ending (-1 : Int32) kp fst aft kk [(.int kk), (.ref frx), (.ref pp)])) rfl rfl (hb hby o_d7_136) _ k) ?_
  refine o_q T41 (o_f19 m 138 pp start ending (-1 : Int32) kp fst aft kk [(.ref pp), (.int (f19 kk.toNatClampNeg)), (.ref pp)]) (fun _ k => XS.aloadN X41.here hx rfl (hb hby o_d7_137) rfl rfl k) ?_
  obtain ⟨T43, X43, e43, st43⟩ := getF X41 hx hZ hown (host := "") (Or.inl (o_m hw 43 rfl)) Via.refl e41 Y24 (g := (o_f19 m 138 pp start ending (-1 : Int32) kp fst aft kk [(.ref pp), (.int (f19 kk.toNatClampNeg)), (.ref pp)])) rfl rfl (hb hby o_d7_138)
  refine o_q T43 (o_f19 m 141 pp start ending (-1 : Int32) kp fst aft kk [(.ref tmx), (.int (f19 kk.toNatClampNeg)), (.ref pp)]) st43 ?_
  refine o_q T43 (o_f19 m 143 pp start ending (-1 : Int32) kp fst aft kk [(.int kk), (.ref tmx), (.int (f19 kk.toNatClampNeg)), (.ref pp)]) (fun _ k => XS.iload X43.here hx rfl (hb hby o_d7_141) rfl k) ?_
  have hin44 : ¬ (kk < (0 : Int32)) ∧ kk < L := by
   have r1 := rng32 kk
   have r2 := rng32 L
   have k3 : (0 : Int32).toInt = 0 := by decide
   have r4 := rng32 aft
   have d0 : kk.toInt < aft.toInt := Int32.lt_iff_toInt_lt.mp c0
   rw [Int32.lt_iff_toInt_lt, Int32.lt_iff_toInt_lt]
   omega
  refine o_q T43 (o_f19 m 144 pp start ending (-1 : Int32) kp fst aft kk [(.long (xsx kk.toNatClampNeg)), (.int (f19 kk.toNatClampNeg)), (.ref pp)]) (fun _ k => o_ldJ X43 hx hZ e43 Y38 hin44 (g := (o_f19 m 143 pp start ending (-1 : Int32) kp fst aft kk [(.int kk), (.ref tmx), (.int (f19 kk.toNatClampNeg)), (.ref pp)])) rfl rfl (hb hby o_d7_143) _ k) ?_
  have ev45 : (f19 kk.toNatClampNeg) = fsc kk.toNatClampNeg + (-1 : Int32) := by rw [d_f19]; dsimp only; rw [if_pos rfl]
  have kn45 : kk.toNatClampNeg + 1 < tlx.toNatClampNeg := by
   have r1 := rng32 kk
   have r2 := rng32 aft
   have r3 := rng32 tlx
   have d0 : kk.toInt < aft.toInt := Int32.lt_iff_toInt_lt.mp c0
   have n0 := o_nat (kk) (by omega)
   have n1 := o_nat (tlx) (by omega)
   omega
  have bb45 := Uk _ (Nat.le_refl _) kn45
  have Dq45 := Dd
  obtain ⟨-, -, -, -, q5, q6, -, -⟩ := Dq45
  have vv45 := o_vv_m1 _ _ lo hi bb45 q5 q6 ev45
  obtain ⟨v46, T46, L46, hQ46, X46, st46⟩ := o_callP X43 hx hZ e43 hown (o_m hw 113 rfl) (o_m hw 114 rfl) (o_m hw 8 rfl) (o_m hw 115 rfl) (by decide) (a := pp) Y20 (o_m hw 116 rfl) (o_m hw 9 rfl) (o_k16_6 l Z a0 hw pp (f19 kk.toNatClampNeg) (xsx kk.toNatClampNeg) h19 (o_nlt0 vv45.2.1) Y23 (o_nlt16 vv45.2.2)) (g := (o_f19 m 144 pp start ending (-1 : Int32) kp fst aft kk [(.long (xsx kk.toNatClampNeg)), (.int (f19 kk.toNatClampNeg)), (.ref pp)])) rfl (by rw [hml]; rfl) rfl (argsL := [(.int (f19 kk.toNatClampNeg)), (.long (xsx kk.toNatClampNeg))]) (rest := []) rfl (lenOf o_pd6 rfl) rfl (hb hby o_d7_144) (o_b rfl) (o_b rfl) (o_b rfl) (o_b rfl)
  obtain ⟨rfl, rfl, e46⟩ := hQ46
  rw [List.append_nil] at X46
  refine o_q T46 (o_f19 m 147 pp start ending (-1 : Int32) kp fst aft kk []) st46 ?_
  refine o_q T46 (o_f19 m 150 pp start ending (-1 : Int32) kp fst aft (kk + (1 : Int32)) []) (fun _ k => XS.iinc X46.here hx rfl (hb hby o_d7_147) rfl (l' := (o_t19 pp start ending (-1 : Int32) kp fst aft (kk + (1 : Int32)))) rfl k) ?_
  refine o_q T46 (o_f19 m 110 pp start ending (-1 : Int32) kp fst aft (kk + (1 : Int32)) []) (fun _ k => XS.goto X46.here hx rfl (pc0 := 150) (pc' := 110) rfl (hb hby o_d7_150) (by decide) (by decide) k) ?_
  have hP47 : o_Pr Z n0 pp rc ru wa tmx frx tlx lax L chx gbx xsx f19 rsx h19 := ⟨Y20, Y21, Y22, Y23, Y24, Y25, Y26, Y27, Y28, Y29, Y30, Y31, Y32, Y33, Y34, Y35, Y36, Y37, Y38, A19, Y40, nt1, wl1, gp1, gt1, gf1, gr1, gu1⟩
  have q49 : ((kk + (1 : Int32))).toInt ≤ 33 := by
   have r1 := rng32 kk
   have k2 : (1 : Int32).toInt = 1 := by decide
   have e3 : ((kk + (1 : Int32))).toInt = kk.toInt + 1 := by
    rw [Jvm.Free.XT.add32 ⟨by rw [show (1 : Int32).toInt = 1 from by decide]; omega, by rw [show (1 : Int32).toInt = 1 from by decide]; omega⟩]; rw [show (1 : Int32).toInt = 1 from by decide]
   have r4 := rng32 aft
   have r5 := rng32 tlx
   have d0 : kk.toInt < aft.toInt := Int32.lt_iff_toInt_lt.mp c0
   omega
  have q50 : 0 ≤ ((kk + (1 : Int32))).toInt := by
   have r1 := rng32 kk
   have k2 : (1 : Int32).toInt = 1 := by decide
   have e3 : ((kk + (1 : Int32))).toInt = kk.toInt + 1 := by
    rw [Jvm.Free.XT.add32 ⟨by rw [show (1 : Int32).toInt = 1 from by decide]; omega, by rw [show (1 : Int32).toInt = 1 from by decide]; omega⟩]; rw [show (1 : Int32).toInt = 1 from by decide]
   have r4 := rng32 aft
   have r5 := rng32 tlx
   have d0 : kk.toInt < aft.toInt := Int32.lt_iff_toInt_lt.mp c0
   omega
  have q51 : aft.toInt - ((kk + (1 : Int32))).toInt + 40 ≤ (k : Int) := by
   have r1 := rng32 kk
   have k2 : (1 : Int32).toInt = 1 := by decide
   have e3 : ((kk + (1 : Int32))).toInt = kk.toInt + 1 := by
    rw [Jvm.Free.XT.add32 ⟨by rw [show (1 : Int32).toInt = 1 from by decide]; omega, by rw [show (1 : Int32).toInt = 1 from by decide]; omega⟩]; rw [show (1 : Int32).toInt = 1 from by decide]
   have r4 := rng32 aft
   have d0 : kk.toInt < aft.toInt := Int32.lt_iff_toInt_lt.mp c0
   omega
  have kz48 : ((kk + (1 : Int32))).toNatClampNeg = kk.toNatClampNeg + 1 := by
   have r1 := rng32 kk
   have k2 : (1 : Int32).toInt = 1 := by decide
   have e3 : ((kk + (1 : Int32))).toInt = kk.toInt + 1 := by
    rw [Jvm.Free.XT.add32 ⟨by rw [show (1 : Int32).toInt = 1 from by decide]; omega, by rw [show (1 : Int32).toInt = 1 from by decide]; omega⟩]; rw [show (1 : Int32).toInt = 1 from by decide]
   have r4 := rng32 aft
   have r5 := rng32 tlx
   have d0 : kk.toInt < aft.toInt := Int32.lt_iff_toInt_lt.mp c0
   have n0 := o_nat (kk) (by omega)
   have n1 := o_nat ((kk + (1 : Int32))) (by omega)
   omega
  obtain ⟨S248, U248⟩ := o_Sstep Dd kn45 Sx Uk vv45.1 (fun i hi => by rw [d_f19]; dsimp only; rw [if_neg hi])
  exact ih (kk + (1 : Int32)) f19 _ _ X46 e46 N_19 hP47 q49 q50 q51 S248 (by rw [kz48]; exact U248)
 ·refine o_q T (o_f19 m 153 pp start ending (-1 : Int32) kp fst aft kk []) (fun _ k => XS.icmpYes X0.here hx rfl (pc0 := 114) (pc' := 153) rfl (hb hby o_d7_114) rfl (flt c0).2.1 (by decide) (by decide) k) ?_
  refine o_q T (o_f19 m 154 pp start ending (-1 : Int32) kp fst aft kk [(.ref pp)]) (fun _ k => XS.aloadN X0.here hx rfl (hb hby o_d7_153) rfl rfl k) ?_
  obtain ⟨T52, X52, e52, st52⟩ := getF X0 hx hZ hown (host := "") (Or.inl (o_m hw 25 rfl)) Via.refl e0 F1_runs (g := (o_f19 m 154 pp start ending (-1 : Int32) kp fst aft kk [(.ref pp)])) rfl rfl (hb hby o_d7_154)
  refine o_q T52 (o_f19 m 157 pp start ending (-1 : Int32) kp fst aft kk [(.ref ru)]) st52 ?_
  refine o_q T52 (o_f19 m 159 pp start ending (-1 : Int32) kp fst aft kk [(.int fst), (.ref ru)]) (fun _ k => XS.iload X52.here hx rfl (hb hby o_d7_157) rfl k) ?_
  refine o_q T52 (o_f19 m 161 pp start ending (-1 : Int32) kp fst aft kk [(.int aft), (.int fst), (.ref ru)]) (fun _ k => XS.iload X52.here hx rfl (hb hby o_d7_159) rfl k) ?_
  obtain ⟨v53, T53, L53, hQ53, X53, st53⟩ := o_callV X52 hx hZ e52 hown (o_m hw 117 rfl) (o_m hw 118 rfl) (o_m hw 120 rfl) (o_m hw 119 rfl) (by decide) (b := ru) Er1 (o_m hw 121 rfl) (o_m hw 18 rfl) (o_k17_7 l Z a0 hw ru fst aft hh Fn1) (g := (o_f19 m 161 pp start ending (-1 : Int32) kp fst aft kk [(.int aft), (.int fst), (.ref ru)])) rfl (by rw [hml]; rfl) rfl (argsL := [(.int fst), (.int aft)]) (rest := []) rfl (lenOf o_pd4 rfl) rfl (hb hby o_d7_161) (o_b rfl) (o_b rfl) (o_b rfl) (o_b rfl)
  obtain ⟨rfl, rfl, e53⟩ := hQ53
  rw [List.append_nil] at X53
  refine o_q T53 (o_f19 m 164 pp start ending (-1 : Int32) kp fst aft kk []) st53 ?_
  refine o_q T53 (o_f19 m 165 pp start ending (-1 : Int32) kp fst aft kk [(.ref pp)]) (fun _ k => XS.aloadN X53.here hx rfl (hb hby o_d7_164) rfl rfl k) ?_
  refine o_q T53 (o_f19 m 167 pp start ending (-1 : Int32) kp fst aft kk [(.int aft), (.ref pp)]) (fun _ k => XS.iload X53.here hx rfl (hb hby o_d7_165) rfl k) ?_
  have q54 : 1 ≤ tlx.toInt := by
   have r1 := rng32 tlx
   have r2 := rng32 kk
   have r3 := rng32 aft
   have d0 : ¬ (kk.toInt < aft.toInt) := mt Int32.lt_iff_toInt_lt.mpr c0
   omega
  have q55 : tlx.toInt ≤ L.toInt := by
   have r1 := rng32 tlx
   have r2 := rng32 L
   have r3 := rng32 kk
   have r4 := rng32 aft
   have d0 : ¬ (kk.toInt < aft.toInt) := mt Int32.lt_iff_toInt_lt.mpr c0
   omega
  have q56 : L.toInt ≤ 32 := by
   have r1 := rng32 L
   have r2 := rng32 kk
   have r3 := rng32 aft
   have d0 : ¬ (kk.toInt < aft.toInt) := mt Int32.lt_iff_toInt_lt.mpr c0
   omega
  have q57 : 0 ≤ aft.toInt := by
   have r1 := rng32 aft
   have r2 := rng32 kk
   have d0 : ¬ (kk.toInt < aft.toInt) := mt Int32.lt_iff_toInt_lt.mpr c0
   omega
  have hP58 : o_Pr Z n0 pp rc ru wa tmx frx tlx lax L chx gbx xsx fsc rsx hh := ⟨Ep1, Er1, Ew1, F1_cpus, F1_times, F1_free, F1_head, F1_tail, F1_lastAt, F1_runs, F1_firstKnown, F1_watcher, F1_watchedAs, F1_changes, F1_merged, F1_gaveBack, F1_recent, Fn1, At1, Af1, Ar1, nt1, wl1, gp1, gt1, gf1, gr1, gu1⟩
  obtain ⟨v59, T59, L59, hQ59, X59, st59⟩ := o_callP X53 hx hZ e53 hown (o_m hw 122 rfl) (o_m hw 123 rfl) (o_m hw 8 rfl) (o_m hw 124 rfl) (by decide) (a := pp) Ep1 (o_m hw 125 rfl) (o_m hw 9 rfl) (o_merge l Z a0 hw n0 pp rc ru wa tmx frx tlx lax L chx gbx xsx fsc rsx aft hh hP58 q54 q55 q56 q57) (g := (o_f19 m 167 pp start ending (-1 : Int32) kp fst aft kk [(.int aft), (.ref pp)])) rfl (by rw [hml]; rfl) rfl (argsL := [(.int aft)]) (rest := []) rfl (lenOf o_pd2 rfl) rfl (hb hby o_d7_167) (o_b rfl) (o_b rfl) (o_b rfl) (o_b rfl)
  obtain ⟨h59, e59⟩ : ∃ z, T59.heap = z := ⟨_, rfl⟩
  rw [e59] at hQ59
  obtain ⟨tl59, xs59, fs59, rfl, N59, hR59, ma59, mb59, mc59, md59, me59⟩ := hQ59
  have N_59 := Fr.app NL N59
  obtain ⟨Ep60, Er60, Ew60, F60_cpus, F60_times, F60_free, F60_head, F60_tail, F60_lastAt, F60_runs, F60_firstKnown, F60_watcher, F60_watchedAs, F60_changes, F60_merged, F60_gaveBack, F60_recent, Fn60, At60, Af60, Ar60, nt60, wl60, gp60, gt60, gf60, gr60, gu60⟩ := hR59
  have ne61 : o_ne pp ru := Ep60.ne Er60 (by decide)
  have ne62 : o_ne pp tmx := At60.neExa Ep60 (o_m hw 8 rfl)
  have ne63 : o_ne ru tmx := At60.neExa Er60 (o_m hw 17 rfl)
  have ne64 : o_ne pp frx := Af60.neExa Ep60 (o_m hw 8 rfl)
  have ne65 : o_ne ru frx := Af60.neExa Er60 (o_m hw 17 rfl)
  have ne66 : o_ne pp rc := Ar60.neExa Ep60 (o_m hw 8 rfl)
  have ne67 : o_ne ru rc := Ar60.neExa Er60 (o_m hw 17 rfl)
  have ne68 : o_ne wa pp := Nat.ne_of_lt (Nat.lt_of_lt_of_le wl60 gp60)
  have ne69 : o_ne wa tmx := Nat.ne_of_lt (Nat.lt_of_lt_of_le wl60 gt60)
  have ne70 : o_ne wa frx := Nat.ne_of_lt (Nat.lt_of_lt_of_le wl60 gf60)
  have ne71 : o_ne wa rc := Nat.ne_of_lt (Nat.lt_of_lt_of_le wl60 gr60)
  have ne72 : o_ne wa ru := Nat.ne_of_lt (Nat.lt_of_lt_of_le wl60 gu60)
  have ne73 : o_ne tmx frx := At60.ne Af60 (by intro q; cases q)
  have ne74 : o_ne frx rc := Af60.ne Ar60 (by intro q; cases q)
  refine o_q T59 (o_f19 m 170 pp start ending (-1 : Int32) kp fst aft kk []) st59 ?_
  refine o_q T59 (o_f19 m 171 pp start ending (-1 : Int32) kp fst aft kk [(.ref pp)]) (fun _ k => XS.aloadN X59.here hx rfl (hb hby o_d7_170) rfl rfl k) ?_
  refine o_q T59 (o_f19 m 173 pp start ending (-1 : Int32) kp fst aft kk [(.int fst), (.ref pp)]) (fun _ k => XS.iload X59.here hx rfl (hb hby o_d7_171) rfl k) ?_
  have q75 : 1 ≤ tl59.toInt := by
   have r1 := rng32 tl59
   have r2 := rng32 kk
   have r3 := rng32 aft
   have d0 : ¬ (kk.toInt < aft.toInt) := mt Int32.lt_iff_toInt_lt.mpr c0
   omega
  have q76 : tl59.toInt ≤ L.toInt := by
   have r1 := rng32 tl59
   have r2 := rng32 L
   have r3 := rng32 kk
   have r4 := rng32 aft
   have d0 : ¬ (kk.toInt < aft.toInt) := mt Int32.lt_iff_toInt_lt.mpr c0
   omega
  have q77 : L.toInt ≤ 32 := by
   have r1 := rng32 L
   have r2 := rng32 kk
   have r3 := rng32 aft
   have d0 : ¬ (kk.toInt < aft.toInt) := mt Int32.lt_iff_toInt_lt.mpr c0
   omega
  have q78 : 0 ≤ fst.toInt := by
   have r1 := rng32 fst
   have r2 := rng32 kk
   have r3 := rng32 aft
   have d0 : ¬ (kk.toInt < aft.toInt) := mt Int32.lt_iff_toInt_lt.mpr c0
   omega
  have hP79 : o_Pr Z n0 pp rc ru wa tmx frx tl59 lax L chx gbx xs59 fs59 rsx h59 := ⟨Ep60, Er60, Ew60, F60_cpus, F60_times, F60_free, F60_head, F60_tail, F60_lastAt, F60_runs, F60_firstKnown, F60_watcher, F60_watchedAs, F60_changes, F60_merged, F60_gaveBack, F60_recent, Fn60, At60, Af60, Ar60, nt60, wl60, gp60, gt60, gf60, gr60, gu60⟩
  obtain ⟨v80, T80, L80, hQ80, X80, st80⟩ := o_callP X59 hx hZ e59 hown (o_m hw 122 rfl) (o_m hw 123 rfl) (o_m hw 8 rfl) (o_m hw 124 rfl) (by decide) (a := pp) Ep60 (o_m hw 125 rfl) (o_m hw 9 rfl) (o_merge l Z a0 hw n0 pp rc ru wa tmx frx tl59 lax L chx gbx xs59 fs59 rsx fst h59 hP79 q75 q76 q77 q78) (g := (o_f19 m 173 pp start ending (-1 : Int32) kp fst aft kk [(.int fst), (.ref pp)])) rfl (by rw [hml]; rfl) rfl (argsL := [(.int fst)]) (rest := []) rfl (lenOf o_pd2 rfl) rfl (hb hby o_d7_173) (o_b rfl) (o_b rfl) (o_b rfl) (o_b rfl)
  obtain ⟨h80, e80⟩ : ∃ z, T80.heap = z := ⟨_, rfl⟩
  rw [e80] at hQ80
  obtain ⟨tl80, xs80, fs80, rfl, N80, hR80, ma80, mb80, mc80, md80, me80⟩ := hQ80
  have N_80 := Fr.app N_59 N80
  obtain ⟨Ep81, Er81, Ew81, F81_cpus, F81_times, F81_free, F81_head, F81_tail, F81_lastAt, F81_runs, F81_firstKnown, F81_watcher, F81_watchedAs, F81_changes, F81_merged, F81_gaveBack, F81_recent, Fn81, At81, Af81, Ar81, nt81, wl81, gp81, gt81, gf81, gr81, gu81⟩ := hR80
  have ne82 : o_ne pp ru := Ep81.ne Er81 (by decide)
  have ne83 : o_ne pp tmx := At81.neExa Ep81 (o_m hw 8 rfl)
  have ne84 : o_ne ru tmx := At81.neExa Er81 (o_m hw 17 rfl)
  have ne85 : o_ne pp frx := Af81.neExa Ep81 (o_m hw 8 rfl)
  have ne86 : o_ne ru frx := Af81.neExa Er81 (o_m hw 17 rfl)
  have ne87 : o_ne pp rc := Ar81.neExa Ep81 (o_m hw 8 rfl)
  have ne88 : o_ne ru rc := Ar81.neExa Er81 (o_m hw 17 rfl)
  have ne89 : o_ne wa pp := Nat.ne_of_lt (Nat.lt_of_lt_of_le wl81 gp81)
  have ne90 : o_ne wa tmx := Nat.ne_of_lt (Nat.lt_of_lt_of_le wl81 gt81)
  have ne91 : o_ne wa frx := Nat.ne_of_lt (Nat.lt_of_lt_of_le wl81 gf81)
  have ne92 : o_ne wa rc := Nat.ne_of_lt (Nat.lt_of_lt_of_le wl81 gr81)
  have ne93 : o_ne wa ru := Nat.ne_of_lt (Nat.lt_of_lt_of_le wl81 gu81)
  have ne94 : o_ne tmx frx := At81.ne Af81 (by intro q; cases q)
  have ne95 : o_ne frx rc := Af81.ne Ar81 (by intro q; cases q)
  refine o_q T80 (o_f19 m 176 pp start ending (-1 : Int32) kp fst aft kk []) st80 ?_
  have hP96 : o_Pr Z n0 pp rc ru wa tmx frx tl80 lax L chx gbx xs80 fs80 rsx h80 := ⟨Ep81, Er81, Ew81, F81_cpus, F81_times, F81_free, F81_head, F81_tail, F81_lastAt, F81_runs, F81_firstKnown, F81_watcher, F81_watchedAs, F81_changes, F81_merged, F81_gaveBack, F81_recent, Fn81, At81, Af81, Ar81, nt81, wl81, gp81, gt81, gf81, gr81, gu81⟩
  have n197 : 1 ≤ tlx.toNatClampNeg := by
   have r1 := rng32 tlx
   have r2 := rng32 kk
   have r3 := rng32 aft
   have d0 : ¬ (kk.toInt < aft.toInt) := mt Int32.lt_iff_toInt_lt.mpr c0
   have n0 := o_nat (tlx) (by omega)
   omega
  have n297 : 1 ≤ tl59.toNatClampNeg := by
   have r1 := rng32 tl59
   have r2 := rng32 kk
   have r3 := rng32 aft
   have d0 : ¬ (kk.toInt < aft.toInt) := mt Int32.lt_iff_toInt_lt.mpr c0
   have n0 := o_nat (tl59) (by omega)
   omega
  have q98 : 1 ≤ tl80.toInt := by
   have r1 := rng32 tl80
   have r2 := rng32 kk
   have r3 := rng32 aft
   have d0 : ¬ (kk.toInt < aft.toInt) := mt Int32.lt_iff_toInt_lt.mpr c0
   omega
  have q99 : tl80.toInt ≤ tlx.toInt := by
   have r1 := rng32 tl80
   have r2 := rng32 tlx
   have r3 := rng32 kk
   have r4 := rng32 aft
   have d0 : ¬ (kk.toInt < aft.toInt) := mt Int32.lt_iff_toInt_lt.mpr c0
   omega
  refine o_retV X80 hx hlk hret (hb hby o_d7_176) ?_ (o_b rfl) (o_b rfl)
  rw [e80]
  exact ⟨tl80, xs80, fs80, rfl, N_80, hP96, q98, q99, (md80.trans md59), (o_Smerge n297 (o_Smerge n197 Sx mc59 me59) mc80 me80)⟩
theorem o_d7_0 : decode o_y12 0 = .ok (.lload_n 1, 1) := by decide +kernel
theorem o_d7_1 : decode o_y12 1 = .ok (.lload_n 3, 1) := by decide +kernel
theorem o_d7_2 : decode o_y12 2 = .ok (.lcmp, 1) := by decide +kernel
theorem o_d7_3 : decode o_y12 3 = .ok (.ifCond .lt 4, 3) := by decide +kernel
theorem o_d7_7 : decode o_y12 7 = .ok (.aload_n 0, 1) := by decide +kernel
theorem o_d7_8 : decode o_y12 8 = .ok (.invokevirtual 225, 3) := by decide +kernel
theorem o_d7_11 : decode o_y12 11 = .ok (.iconst 3, 1) := by decide +kernel
theorem o_d7_12 : decode o_y12 12 = .ok (.aload_n 0, 1) := by decide +kernel
theorem o_d7_13 : decode o_y12 13 = .ok (.dup, 1) := by decide +kernel
theorem o_d7_14 : decode o_y12 14 = .ok (.getfield 156, 3) := by decide +kernel
theorem o_d7_17 : decode o_y12 17 = .ok (.lconst 1, 1) := by decide +kernel
theorem o_d7_18 : decode o_y12 18 = .ok (.ladd, 1) := by decide +kernel
theorem o_d7_19 : decode o_y12 19 = .ok (.dup2_x1, 1) := by decide +kernel
theorem o_d7_20 : decode o_y12 20 = .ok (.putfield 156, 3) := by decide +kernel
theorem o_d7_23 : decode o_y12 23 = .ok (.ldc2_w 166, 3) := by decide +kernel
theorem o_d7_26 : decode o_y12 26 = .ok (.lrem, 1) := by decide +kernel
theorem o_d7_27 : decode o_y12 27 = .ok (.l2i, 1) := by decide +kernel
theorem o_d7_28 : decode o_y12 28 = .ok (.imul, 1) := by decide +kernel
theorem o_d7_29 : decode o_y12 29 = .ok (.istore 6, 2) := by decide +kernel
theorem o_d7_31 : decode o_y12 31 = .ok (.aload_n 0, 1) := by decide +kernel
theorem o_d7_32 : decode o_y12 32 = .ok (.getfield 30, 3) := by decide +kernel
theorem o_d7_35 : decode o_y12 35 = .ok (.iload 6, 2) := by decide +kernel
theorem o_d7_37 : decode o_y12 37 = .ok (.lload_n 1, 1) := by decide +kernel
theorem o_d7_38 : decode o_y12 38 = .ok (.lastore, 1) := by decide +kernel
theorem o_d7_39 : decode o_y12 39 = .ok (.aload_n 0, 1) := by decide +kernel
theorem o_d7_40 : decode o_y12 40 = .ok (.getfield 30, 3) := by decide +kernel
theorem o_d7_43 : decode o_y12 43 = .ok (.iload 6, 2) := by decide +kernel
theorem o_d7_45 : decode o_y12 45 = .ok (.iconst 1, 1) := by decide +kernel
theorem o_d7_46 : decode o_y12 46 = .ok (.iadd, 1) := by decide +kernel
theorem o_d7_47 : decode o_y12 47 = .ok (.lload_n 3, 1) := by decide +kernel
theorem o_d7_48 : decode o_y12 48 = .ok (.lastore, 1) := by decide +kernel
theorem o_d7_49 : decode o_y12 49 = .ok (.aload_n 0, 1) := by decide +kernel
theorem o_d7_50 : decode o_y12 50 = .ok (.getfield 30, 3) := by decide +kernel
theorem o_d7_53 : decode o_y12 53 = .ok (.iload 6, 2) := by decide +kernel
theorem o_d7_55 : decode o_y12 55 = .ok (.iconst 2, 1) := by decide +kernel
theorem o_d7_56 : decode o_y12 56 = .ok (.iadd, 1) := by decide +kernel
theorem o_d7_57 : decode o_y12 57 = .ok (.iload 5, 2) := by decide +kernel
theorem o_d7_59 : decode o_y12 59 = .ok (.ifCond .le 7, 3) := by decide +kernel
theorem o_d7_66 : decode o_y12 66 = .ok (.lconst 0, 1) := by decide +kernel
theorem o_d7_67 : decode o_y12 67 = .ok (.lastore, 1) := by decide +kernel
theorem o_d7_68 : decode o_y12 68 = .ok (.iload 5, 2) := by decide +kernel
theorem o_d7_70 : decode o_y12 70 = .ok (.ifCond .le 11, 3) := by decide +kernel
theorem o_d7_81 : decode o_y12 81 = .ok (.aload_n 0, 1) := by decide +kernel
theorem o_d7_82 : decode o_y12 82 = .ok (.aload_n 0, 1) := by decide +kernel
theorem o_d7_83 : decode o_y12 83 = .ok (.getfield 53, 3) := by decide +kernel
theorem o_d7_86 : decode o_y12 86 = .ok (.iconst 2, 1) := by decide +kernel
theorem o_d7_87 : decode o_y12 87 = .ok (.iadd, 1) := by decide +kernel
theorem o_d7_88 : decode o_y12 88 = .ok (.invokevirtual 241, 3) := by decide +kernel
theorem o_pd1 : parseMethodDescriptor "(I)I" = some ⟨[.int], some .int⟩ := by decide +kernel
theorem o_d7_91 : decode o_y12 91 = .ok (.pop, 1) := by decide +kernel
theorem o_d7_92 : decode o_y12 92 = .ok (.aload_n 0, 1) := by decide +kernel
theorem o_d7_93 : decode o_y12 93 = .ok (.lload_n 1, 1) := by decide +kernel
theorem o_d7_94 : decode o_y12 94 = .ok (.invokevirtual 283, 3) := by decide +kernel
theorem o_d7_97 : decode o_y12 97 = .ok (.istore 7, 2) := by decide +kernel
theorem o_d7_99 : decode o_y12 99 = .ok (.aload_n 0, 1) := by decide +kernel
theorem o_d7_100 : decode o_y12 100 = .ok (.lload_n 3, 1) := by decide +kernel
theorem o_d7_101 : decode o_y12 101 = .ok (.invokevirtual 283, 3) := by decide +kernel
theorem o_d7_104 : decode o_y12 104 = .ok (.istore 8, 2) := by decide +kernel
theorem o_d7_106 : decode o_y12 106 = .ok (.iload 7, 2) := by decide +kernel
theorem o_d7_108 : decode o_y12 108 = .ok (.istore 9, 2) := by decide +kernel
theorem o_pn7 : plainFor (⟨o_n1, "add", "(JJI)V"⟩ : MethodName) = true := plainFor_of_name (by first | (simp [plainName, overriddenIn]; done) | decide +kernel)
set_option maxRecDepth 65536 in
set_option maxHeartbeats 40000000 in
theorem o_addN_m1 (l : Launch) (Z : State) (a0 : Array Value) (hw : ∀ d ∈ tables_1, d.before a0 Z = true) (n0 : Nat) (pp rc ru wa tm fr : Addr) (tl la L : Int32) (ch gb : Int64) (xs : Nat → Int64) (fs : Nat → Int32) (rs : Nat → Int64) (start ending : Int64) (cn : Nat) (lo hi lo1 hi1 : Int) (h0 : Heap) (hP : o_Pr Z n0 pp rc ru wa tm fr tl la L ch gb xs fs rs h0) (i1 : 1 ≤ tl.toInt) (i2 : tl.toInt ≤ L.toInt) (i3 : L.toInt ≤ 32) (i4 : tl.toInt + 2 ≤ L.toInt) (hse : start < ending) (hc : ch.toInt = (cn : Int)) (hc2 : cn ≤ 100) (Dd : o_D lo hi lo1 hi1 (-1)) (Sg : o_S lo hi tl.toNatClampNeg xs fs) (hz : hi ≤ 15 → ¬ start < xs 0) :
  o_C l (⟨o_n1, "add", "(JJI)V"⟩ : MethodName) o_y12 10 none (o_R 5 0 0 100) Z h0 #[(.ref pp), (.long start), (.long ending), (.int (-1 : Int32))] (fun v h Ls => ∃ (tm' fr' : Addr) (tl' la' : Int32) (xs' : Nat → Int64) (fs' : Nat → Int32), v = none ∧ Fr n0 Ls ∧ o_Pr Z n0 pp rc ru wa tm' fr' tl' la' L (ch + (1 : Int64)) gb xs' fs' (o_put rs (cn + 1) start ending (0 : Int64)) h ∧ 1 ≤ tl'.toInt ∧ tl'.toInt ≤ tl.toInt + 2 ∧ xs' 0 = xs 0 ∧ o_S lo1 hi1 tl'.toNatClampNeg xs' fs') := by
 refine o_body o_pn7 ?_
 intro p e s m below meth c s₁ hx hby hml hZ hown hnm hret hlk X0 e0
 refine o_cast (f' := (o_f20 m 0 pp start ending (-1 : Int32) [])) (by first | (simp [entryFrame, mkF, argsToLocals, Value.category, maxLocals]; done) | rfl) ?_
 obtain ⟨Ep1, Er1, Ew1, F1_cpus, F1_times, F1_free, F1_head, F1_tail, F1_lastAt, F1_runs, F1_firstKnown, F1_watcher, F1_watchedAs, F1_changes, F1_merged, F1_gaveBack, F1_recent, Fn1, At1, Af1, Ar1, nt1, wl1, gp1, gt1, gf1, gr1, gu1⟩ := hP
 have ne2 : o_ne pp ru := Ep1.ne Er1 (by decide)
 have ne3 : o_ne pp tm := At1.neExa Ep1 (o_m hw 8 rfl)
 have ne4 : o_ne ru tm := At1.neExa Er1 (o_m hw 17 rfl)
 have ne5 : o_ne pp fr := Af1.neExa Ep1 (o_m hw 8 rfl)
 have ne6 : o_ne ru fr := Af1.neExa Er1 (o_m hw 17 rfl)
 have ne7 : o_ne pp rc := Ar1.neExa Ep1 (o_m hw 8 rfl)
 have ne8 : o_ne ru rc := Ar1.neExa Er1 (o_m hw 17 rfl)
 have ne9 : o_ne wa pp := Nat.ne_of_lt (Nat.lt_of_lt_of_le wl1 gp1)
 have ne10 : o_ne wa tm := Nat.ne_of_lt (Nat.lt_of_lt_of_le wl1 gt1)
 have ne11 : o_ne wa fr := Nat.ne_of_lt (Nat.lt_of_lt_of_le wl1 gf1)
 have ne12 : o_ne wa rc := Nat.ne_of_lt (Nat.lt_of_lt_of_le wl1 gr1)
 have ne13 : o_ne wa ru := Nat.ne_of_lt (Nat.lt_of_lt_of_le wl1 gu1)
 have ne14 : o_ne tm fr := At1.ne Af1 (by intro q; cases q)
 have ne15 : o_ne fr rc := Af1.ne Ar1 (by intro q; cases q)
 refine o_q s₁ (o_f20 m 1 pp start ending (-1 : Int32) [(.long start)]) (fun _ k => XS.lloadN X0.here hx rfl (hb hby o_d7_0) rfl k) ?_
 refine o_q s₁ (o_f20 m 2 pp start ending (-1 : Int32) [(.long ending), (.long start)]) (fun _ k => XS.lloadN X0.here hx rfl (hb hby o_d7_1) rfl k) ?_
 refine o_q s₁ (o_f20 m 3 pp start ending (-1 : Int32) [(.int (lcmpW start ending))]) (fun _ k => XS.lcmp X0.here hx rfl (hb hby o_d7_2) rfl k) ?_
 refine o_q s₁ (o_f20 m 7 pp start ending (-1 : Int32) []) (fun _ k => XS.ifYes X0.here hx rfl (pc0 := 3) (pc' := 7) rfl (hb hby o_d7_3) rfl ((if0 _ _).trans (tlt ((lw_lt _ _).mpr hse)).1) (by decide) (by decide) k) ?_
 refine o_q s₁ (o_f20 m 8 pp start ending (-1 : Int32) [(.ref pp)]) (fun _ k => XS.aloadN X0.here hx rfl (hb hby o_d7_7) rfl rfl k) ?_
 have hP16 : o_Pr Z n0 pp rc ru wa tm fr tl la L ch gb xs fs rs h0 := ⟨Ep1, Er1, Ew1, F1_cpus, F1_times, F1_free, F1_head, F1_tail, F1_lastAt, F1_runs, F1_firstKnown, F1_watcher, F1_watchedAs, F1_changes, F1_merged, F1_gaveBack, F1_recent, Fn1, At1, Af1, Ar1, nt1, wl1, gp1, gt1, gf1, gr1, gu1⟩
 obtain ⟨v17, T17, L17, hQ17, X17, st17⟩ := o_callP X0 hx hZ e0 hown (o_m hw 59 rfl) (o_m hw 60 rfl) (o_m hw 8 rfl) (o_m hw 61 rfl) (by decide) (a := pp) Ep1 (o_m hw 62 rfl) (o_m hw 9 rfl) (o_counts l Z a0 hw n0 pp rc ru wa tm fr tl la L ch gb xs fs rs  h0 hP16 ) (g := (o_f20 m 8 pp start ending (-1 : Int32) [(.ref pp)])) rfl (by rw [hml]; rfl) rfl (argsL := []) (rest := []) rfl (lenOf o_pd0 rfl) rfl (hb hby o_d7_8) (o_b rfl) (o_b rfl) (o_b rfl) (o_b rfl)
 obtain ⟨h17, e17⟩ : ∃ z, T17.heap = z := ⟨_, rfl⟩
 rw [e17] at hQ17
 obtain ⟨rfl, N17, hR17⟩ := hQ17
 have N_17 := Fr.app (Fr.nil _) N17
 obtain ⟨Ep18, Er18, Ew18, F18_cpus, F18_times, F18_free, F18_head, F18_tail, F18_lastAt, F18_runs, F18_firstKnown, F18_watcher, F18_watchedAs, F18_changes, F18_merged, F18_gaveBack, F18_recent, Fn18, At18, Af18, Ar18, nt18, wl18, gp18, gt18, gf18, gr18, gu18⟩ := hR17
 have ne19 : o_ne pp ru := Ep18.ne Er18 (by decide)
 have ne20 : o_ne pp tm := At18.neExa Ep18 (o_m hw 8 rfl)
 have ne21 : o_ne ru tm := At18.neExa Er18 (o_m hw 17 rfl)
 have ne22 : o_ne pp fr := Af18.neExa Ep18 (o_m hw 8 rfl)
 have ne23 : o_ne ru fr := Af18.neExa Er18 (o_m hw 17 rfl)
 have ne24 : o_ne pp rc := Ar18.neExa Ep18 (o_m hw 8 rfl)
 have ne25 : o_ne ru rc := Ar18.neExa Er18 (o_m hw 17 rfl)
 have ne26 : o_ne wa pp := Nat.ne_of_lt (Nat.lt_of_lt_of_le wl18 gp18)
 have ne27 : o_ne wa tm := Nat.ne_of_lt (Nat.lt_of_lt_of_le wl18 gt18)
 have ne28 : o_ne wa fr := Nat.ne_of_lt (Nat.lt_of_lt_of_le wl18 gf18)
 have ne29 : o_ne wa rc := Nat.ne_of_lt (Nat.lt_of_lt_of_le wl18 gr18)
 have ne30 : o_ne wa ru := Nat.ne_of_lt (Nat.lt_of_lt_of_le wl18 gu18)
 have ne31 : o_ne tm fr := At18.ne Af18 (by intro q; cases q)
 have ne32 : o_ne fr rc := Af18.ne Ar18 (by intro q; cases q)
 refine o_q T17 (o_f20 m 11 pp start ending (-1 : Int32) []) st17 ?_
 refine o_q T17 (o_f20 m 12 pp start ending (-1 : Int32) [(.int (3 : Int32))]) (fun _ k => XS.iconst X17.here hx rfl (hb hby o_d7_11) k) ?_
 refine o_q T17 (o_f20 m 13 pp start ending (-1 : Int32) [(.ref pp), (.int (3 : Int32))]) (fun _ k => XS.aloadN X17.here hx rfl (hb hby o_d7_12) rfl rfl k) ?_
 refine o_q T17 (o_f20 m 14 pp start ending (-1 : Int32) [(.ref pp), (.ref pp), (.int (3 : Int32))]) (fun _ k => XS.dup X17.here hx rfl (hb hby o_d7_13) rfl rfl k) ?_
 obtain ⟨T33, X33, e33, st33⟩ := getF X17 hx hZ hown (host := "") (Or.inl (o_m hw 77 rfl)) Via.refl e17 F18_changes (g := (o_f20 m 14 pp start ending (-1 : Int32) [(.ref pp), (.ref pp), (.int (3 : Int32))])) rfl rfl (hb hby o_d7_14)
 refine o_q T33 (o_f20 m 17 pp start ending (-1 : Int32) [(.long ch), (.ref pp), (.int (3 : Int32))]) st33 ?_
 refine o_q T33 (o_f20 m 18 pp start ending (-1 : Int32) [(.long (1 : Int64)), (.long ch), (.ref pp), (.int (3 : Int32))]) (fun _ k => XS.lconst X33.here hx rfl (hb hby o_d7_17) k) ?_
 refine o_q T33 (o_f20 m 19 pp start ending (-1 : Int32) [(.long (ch + (1 : Int64))), (.ref pp), (.int (3 : Int32))]) (fun _ k => XS.ladd X33.here hx rfl (hb hby o_d7_18) rfl k) ?_
 refine o_q T33 (o_f20 m 20 pp start ending (-1 : Int32) [(.long (ch + (1 : Int64))), (.ref pp), (.long (ch + (1 : Int64))), (.int (3 : Int32))]) (fun _ k => by jvm_step X33.here [X33.here.top, hx, (hb hby o_d7_19), Value.category]; exact k) ?_
 obtain ⟨T34, h34, X34, e34, W34, st34⟩ := putF X33 hx hZ hown (host := "") (Or.inl (o_m hw 77 rfl)) Via.refl e33 F18_changes Ep18 (Or.inl (o_m hw 78 rfl)) (o_m hw 8 rfl) (ty := .long) (by decide) rfl rfl (g := (o_f20 m 20 pp start ending (-1 : Int32) [(.long (ch + (1 : Int64))), (.ref pp), (.long (ch + (1 : Int64))), (.int (3 : Int32))])) rfl rfl (hb hby o_d7_20)
 have Fw34 := F18_changes.same W34
 have N_34 := Fr.snoc X34 N_17 gp18
 have Y35 := Ep18.wr W34
 have Y36 := Er18.wr W34
 have Y37 := Ew18.wr W34
 have Y38 := F18_cpus.other W34 (o_sn (Or.inr (o_m hw 41 rfl)) (Or.inl (o_m hw 78 rfl)))
 have Y39 := F18_times.other W34 (o_sn (Or.inl (o_m hw 44 rfl)) (Or.inl (o_m hw 78 rfl)))
 have Y40 := F18_free.other W34 (o_sn (Or.inl (o_m hw 47 rfl)) (Or.inl (o_m hw 78 rfl)))
 have Y41 := F18_head.other W34 (o_sn (Or.inl (o_m hw 93 rfl)) (Or.inl (o_m hw 78 rfl)))
 have Y42 := F18_tail.other W34 (o_sn (Or.inl (o_m hw 49 rfl)) (Or.inl (o_m hw 78 rfl)))
 have Y43 := F18_lastAt.other W34 (o_sn (Or.inl (o_m hw 106 rfl)) (Or.inl (o_m hw 78 rfl)))
 have Y44 := F18_runs.other W34 (o_sn (Or.inr (o_m hw 26 rfl)) (Or.inl (o_m hw 78 rfl)))
 have Y45 := F18_firstKnown.other W34 (o_sn (Or.inl (o_m hw 64 rfl)) (Or.inl (o_m hw 78 rfl)))
 have Y46 := F18_watcher.other W34 (o_sn (Or.inl (o_m hw 39 rfl)) (Or.inl (o_m hw 78 rfl)))
 have Y47 := F18_watchedAs.other W34 (o_sn (Or.inl (o_m hw 66 rfl)) (Or.inl (o_m hw 78 rfl)))
 have Y49 := F18_merged.other W34 (o_sn (Or.inl (o_m hw 132 rfl)) (Or.inl (o_m hw 78 rfl)))
 have Y50 := F18_gaveBack.other W34 (o_sn (Or.inl (o_m hw 166 rfl)) (Or.inl (o_m hw 78 rfl)))
 have Y51 := F18_recent.other W34 (o_sn (Or.inr (o_m hw 35 rfl)) (Or.inl (o_m hw 78 rfl)))
 have Y52 := Fn18.other W34 (Or.inl (Ne.symm ne19))
 have Y53 := At18.other W34 (Ne.symm ne20)
 have Y54 := Af18.other W34 (Ne.symm ne22)
 have Y55 := Ar18.other W34 (Ne.symm ne24)
 refine o_q T34 (o_f20 m 23 pp start ending (-1 : Int32) [(.long (ch + (1 : Int64))), (.int (3 : Int32))]) st34 ?_
 refine o_q T34 (o_f20 m 26 pp start ending (-1 : Int32) [(.long (8 : Int64)), (.long (ch + (1 : Int64))), (.int (3 : Int32))]) (fun _ k => X34.ldc2Long hx hown (mvT hZ (o_m hw 79 rfl)) (g := (o_f20 m 23 pp start ending (-1 : Int32) [(.long (ch + (1 : Int64))), (.int (3 : Int32))])) rfl (hb hby o_d7_23) _ k) ?_
 refine o_q T34 (o_f20 m 27 pp start ending (-1 : Int32) [(.long ((ch + (1 : Int64)) - ((ch + (1 : Int64)) / (8 : Int64)) * (8 : Int64))), (.int (3 : Int32))]) (fun _ k => XS.lrem X34.here hx rfl (hb hby o_d7_26) rfl (by decide) k) ?_
 refine o_q T34 (o_f20 m 28 pp start ending (-1 : Int32) [(.int (((ch + (1 : Int64)) - ((ch + (1 : Int64)) / (8 : Int64)) * (8 : Int64))).toInt32), (.int (3 : Int32))]) (fun _ k => XS.l2i X34.here hx rfl (hb hby o_d7_27) rfl k) ?_
 refine o_q T34 (o_f20 m 29 pp start ending (-1 : Int32) [(.int ((3 : Int32) * (((ch + (1 : Int64)) - ((ch + (1 : Int64)) / (8 : Int64)) * (8 : Int64))).toInt32))]) (fun _ k => XS.imul X34.here hx rfl (hb hby o_d7_28) rfl k) ?_
 obtain ⟨kp, h_kp⟩ : ∃ z, z = ((3 : Int32) * (((ch + (1 : Int64)) - ((ch + (1 : Int64)) / (8 : Int64)) * (8 : Int64))).toInt32) := ⟨_, rfl⟩
 rw [← h_kp]
 obtain ⟨q8, hq8⟩ : ∃ z, z = (cn + 1) % 8 := ⟨_, rfl⟩
 have hk8 : q8 < 8 := hq8 ▸ Nat.mod_lt _ (by decide)
 have hkp : kp.toInt = 3 * (q8 : Int) := by rw [h_kp, o_kept ch cn hc hc2, ← hq8]; rfl
 refine o_q T34 (o_f21 m 31 pp start ending (-1 : Int32) kp []) (fun _ k => XS.istore X34.here hx rfl (hb hby o_d7_29) rfl (l' := (o_t21 pp start ending (-1 : Int32) kp)) rfl k) ?_
 refine o_q T34 (o_f21 m 32 pp start ending (-1 : Int32) kp [(.ref pp)]) (fun _ k => XS.aloadN X34.here hx rfl (hb hby o_d7_31) rfl rfl k) ?_
 obtain ⟨T56, X56, e56, st56⟩ := getF X34 hx hZ hown (host := "") (Or.inl (o_m hw 34 rfl)) Via.refl e34 Y51 (g := (o_f21 m 32 pp start ending (-1 : Int32) kp [(.ref pp)])) rfl rfl (hb hby o_d7_32)
 refine o_q T56 (o_f21 m 35 pp start ending (-1 : Int32) kp [(.ref rc)]) st56 ?_
 refine o_q T56 (o_f21 m 37 pp start ending (-1 : Int32) kp [(.int kp), (.ref rc)]) (fun _ k => XS.iload X56.here hx rfl (hb hby o_d7_35) rfl k) ?_
 refine o_q T56 (o_f21 m 38 pp start ending (-1 : Int32) kp [(.long start), (.int kp), (.ref rc)]) (fun _ k => XS.lloadN X56.here hx rfl (hb hby o_d7_37) rfl k) ?_
 have hin57 : ¬ (kp < (0 : Int32)) ∧ kp < (24 : Int32) := by
  have r1 := rng32 kp
  have k2 : (24 : Int32).toInt = 24 := by decide
  have k3 : (0 : Int32).toInt = 0 := by decide
  rw [Int32.lt_iff_toInt_lt, Int32.lt_iff_toInt_lt]
  omega
 obtain ⟨T58, h58, X58, e58, W58, A58, st58⟩ := o_stJ X56 hx hZ e56 Y55 hin57 (g := (o_f21 m 38 pp start ending (-1 : Int32) kp [(.long start), (.int kp), (.ref rc)])) rfl rfl (hb hby o_d7_38)
 obtain ⟨f58, d_f58⟩ : ∃ z : Nat → Int64, z = (fun i => if i = kp.toNatClampNeg then start else rs i) := ⟨_, rfl⟩
 rw [← d_f58] at A58
 have N_58 := Fr.snoc X58 N_34 gr18
 have Y59 := Y35.wr W58
 have Y60 := Y36.wr W58
 have Y61 := Y37.wr W58
 have Y62 := Y38.other W58 (Or.inl ne24)
 have Y63 := Y39.other W58 (Or.inl ne24)
 have Y64 := Y40.other W58 (Or.inl ne24)
 have Y65 := Y41.other W58 (Or.inl ne24)
 have Y66 := Y42.other W58 (Or.inl ne24)
 have Y67 := Y43.other W58 (Or.inl ne24)
 have Y68 := Y44.other W58 (Or.inl ne24)
 have Y69 := Y45.other W58 (Or.inl ne24)
 have Y70 := Y46.other W58 (Or.inl ne24)
 have Y71 := Y47.other W58 (Or.inl ne24)
 have Y72 := Fw34.other W58 (Or.inl ne24)
 have Y73 := Y49.other W58 (Or.inl ne24)
 have Y74 := Y50.other W58 (Or.inl ne24)
 have Y75 := Y51.other W58 (Or.inl ne24)
 have Y76 := Y52.other W58 (Or.inl ne25)
 have Y77 := Y53.other W58 nt18
 have Y78 := Y54.other W58 ne32
 refine o_q T58 (o_f21 m 39 pp start ending (-1 : Int32) kp []) st58 ?_
 refine o_q T58 (o_f21 m 40 pp start ending (-1 : Int32) kp [(.ref pp)]) (fun _ k => XS.aloadN X58.here hx rfl (hb hby o_d7_39) rfl rfl k) ?_
 obtain ⟨T80, X80, e80, st80⟩ := getF X58 hx hZ hown (host := "") (Or.inl (o_m hw 34 rfl)) Via.refl e58 Y75 (g := (o_f21 m 40 pp start ending (-1 : Int32) kp [(.ref pp)])) rfl rfl (hb hby o_d7_40)
 refine o_q T80 (o_f21 m 43 pp start ending (-1 : Int32) kp [(.ref rc)]) st80 ?_
 refine o_q T80 (o_f21 m 45 pp start ending (-1 : Int32) kp [(.int kp), (.ref rc)]) (fun _ k => XS.iload X80.here hx rfl (hb hby o_d7_43) rfl k) ?_
 refine o_q T80 (o_f21 m 46 pp start ending (-1 : Int32) kp [(.int (1 : Int32)), (.int kp), (.ref rc)]) (fun _ k => XS.iconst X80.here hx rfl (hb hby o_d7_45) k) ?_
 refine o_q T80 (o_f21 m 47 pp start ending (-1 : Int32) kp [(.int (kp + (1 : Int32))), (.ref rc)]) (fun _ k => XS.iadd X80.here hx rfl (hb hby o_d7_46) rfl k) ?_
 refine o_q T80 (o_f21 m 48 pp start ending (-1 : Int32) kp [(.long ending), (.int (kp + (1 : Int32))), (.ref rc)]) (fun _ k => XS.lloadN X80.here hx rfl (hb hby o_d7_47) rfl k) ?_
 have hin81 : ¬ ((kp + (1 : Int32)) < (0 : Int32)) ∧ (kp + (1 : Int32)) < (24 : Int32) := by
  have r1 := rng32 kp
  have k2 : (1 : Int32).toInt = 1 := by decide
  have e3 : ((kp + (1 : Int32))).toInt = kp.toInt + 1 := by
   rw [Jvm.Free.XT.add32 ⟨by rw [show (1 : Int32).toInt = 1 from by decide]; omega, by rw [show (1 : Int32).toInt = 1 from by decide]; omega⟩]; rw [show (1 : Int32).toInt = 1 from by decide]
  have k4 : (24 : Int32).toInt = 24 := by decide
  have k5 : (0 : Int32).toInt = 0 := by decide
  rw [Int32.lt_iff_toInt_lt, Int32.lt_iff_toInt_lt]
  omega
 obtain ⟨T82, h82, X82, e82, W82, A82, st82⟩ := o_stJ X80 hx hZ e80 A58 hin81 (g := (o_f21 m 48 pp start ending (-1 : Int32) kp [(.long ending), (.int (kp + (1 : Int32))), (.ref rc)])) rfl rfl (hb hby o_d7_48)
 obtain ⟨f82, d_f82⟩ : ∃ z : Nat → Int64, z = (fun i => if i = ((kp + (1 : Int32))).toNatClampNeg then ending else f58 i) := ⟨_, rfl⟩
 rw [← d_f82] at A82
 have N_82 := Fr.snoc X82 N_58 gr18
 have Y83 := Y59.wr W82
 have Y84 := Y60.wr W82
 have Y85 := Y61.wr W82
 have Y86 := Y62.other W82 (Or.inl ne24)
 have Y87 := Y63.other W82 (Or.inl ne24)
 have Y88 := Y64.other W82 (Or.inl ne24)
 have Y89 := Y65.other W82 (Or.inl ne24)
 have Y90 := Y66.other W82 (Or.inl ne24)
 have Y91 := Y67.other W82 (Or.inl ne24)
 have Y92 := Y68.other W82 (Or.inl ne24)
 have Y93 := Y69.other W82 (Or.inl ne24)
 have Y94 := Y70.other W82 (Or.inl ne24)
 have Y95 := Y71.other W82 (Or.inl ne24)
 have Y96 := Y72.other W82 (Or.inl ne24)
 have Y97 := Y73.other W82 (Or.inl ne24)
 have Y98 := Y74.other W82 (Or.inl ne24)
 have Y99 := Y75.other W82 (Or.inl ne24)
 have Y100 := Y76.other W82 (Or.inl ne25)
 have Y101 := Y77.other W82 nt18
 have Y102 := Y78.other W82 ne32
 refine o_q T82 (o_f21 m 49 pp start ending (-1 : Int32) kp []) st82 ?_
 refine o_q T82 (o_f21 m 50 pp start ending (-1 : Int32) kp [(.ref pp)]) (fun _ k => XS.aloadN X82.here hx rfl (hb hby o_d7_49) rfl rfl k) ?_
 obtain ⟨T104, X104, e104, st104⟩ := getF X82 hx hZ hown (host := "") (Or.inl (o_m hw 34 rfl)) Via.refl e82 Y99 (g := (o_f21 m 50 pp start ending (-1 : Int32) kp [(.ref pp)])) rfl rfl (hb hby o_d7_50)
 refine o_q T104 (o_f21 m 53 pp start ending (-1 : Int32) kp [(.ref rc)]) st104 ?_
 refine o_q T104 (o_f21 m 55 pp start ending (-1 : Int32) kp [(.int kp), (.ref rc)]) (fun _ k => XS.iload X104.here hx rfl (hb hby o_d7_53) rfl k) ?_
 refine o_q T104 (o_f21 m 56 pp start ending (-1 : Int32) kp [(.int (2 : Int32)), (.int kp), (.ref rc)]) (fun _ k => XS.iconst X104.here hx rfl (hb hby o_d7_55) k) ?_
 refine o_q T104 (o_f21 m 57 pp start ending (-1 : Int32) kp [(.int (kp + (2 : Int32))), (.ref rc)]) (fun _ k => XS.iadd X104.here hx rfl (hb hby o_d7_56) rfl k) ?_
 refine o_q T104 (o_f21 m 59 pp start ending (-1 : Int32) kp [(.int (-1 : Int32)), (.int (kp + (2 : Int32))), (.ref rc)]) (fun _ k => XS.iload X104.here hx rfl (hb hby o_d7_57) rfl k) ?_
 refine o_q T104 (o_f21 m 66 pp start ending (-1 : Int32) kp [(.int (kp + (2 : Int32))), (.ref rc)]) (fun _ k => XS.ifYes X104.here hx rfl (pc0 := 59) (pc' := 66) rfl (hb hby o_d7_59) rfl ((if0 _ _).trans (flt (by decide : ¬ ((0 : Int32) < (-1 : Int32)))).2.2.2) (by decide) (by decide) k) ?_
 refine o_q T104 (o_f21 m 67 pp start ending (-1 : Int32) kp [(.long (0 : Int64)), (.int (kp + (2 : Int32))), (.ref rc)]) (fun _ k => XS.lconst X104.here hx rfl (hb hby o_d7_66) k) ?_
 have hin105 : ¬ ((kp + (2 : Int32)) < (0 : Int32)) ∧ (kp + (2 : Int32)) < (24 : Int32) := by
  have r1 := rng32 kp
  have k2 : (2 : Int32).toInt = 2 := by decide
  have e3 : ((kp + (2 : Int32))).toInt = kp.toInt + 2 := by
   rw [Jvm.Free.XT.add32 ⟨by rw [show (2 : Int32).toInt = 2 from by decide]; omega, by rw [show (2 : Int32).toInt = 2 from by decide]; omega⟩]; rw [show (2 : Int32).toInt = 2 from by decide]
  have k4 : (24 : Int32).toInt = 24 := by decide
  have k5 : (0 : Int32).toInt = 0 := by decide
  rw [Int32.lt_iff_toInt_lt, Int32.lt_iff_toInt_lt]
  omega
 obtain ⟨T106, h106, X106, e106, W106, A106, st106⟩ := o_stJ X104 hx hZ e104 A82 hin105 (g := (o_f21 m 67 pp start ending (-1 : Int32) kp [(.long (0 : Int64)), (.int (kp + (2 : Int32))), (.ref rc)])) rfl rfl (hb hby o_d7_67)
 obtain ⟨f106, d_f106⟩ : ∃ z : Nat → Int64, z = (fun i => if i = ((kp + (2 : Int32))).toNatClampNeg then (0 : Int64) else f82 i) := ⟨_, rfl⟩
 rw [← d_f106] at A106
 have N_106 := Fr.snoc X106 N_82 gr18
 have Y107 := Y83.wr W106
 have Y108 := Y84.wr W106
 have Y109 := Y85.wr W106
 have Y110 := Y86.other W106 (Or.inl ne24)
 have Y111 := Y87.other W106 (Or.inl ne24)
 have Y112 := Y88.other W106 (Or.inl ne24)
 have Y113 := Y89.other W106 (Or.inl ne24)
 have Y114 := Y90.other W106 (Or.inl ne24)
 have Y115 := Y91.other W106 (Or.inl ne24)
 have Y116 := Y92.other W106 (Or.inl ne24)
 have Y117 := Y93.other W106 (Or.inl ne24)
 have Y118 := Y94.other W106 (Or.inl ne24)
 have Y119 := Y95.other W106 (Or.inl ne24)
 have Y120 := Y96.other W106 (Or.inl ne24)
 have Y121 := Y97.other W106 (Or.inl ne24)
 have Y122 := Y98.other W106 (Or.inl ne24)
 have Y123 := Y99.other W106 (Or.inl ne24)
 have Y124 := Y100.other W106 (Or.inl ne25)
 have Y125 := Y101.other W106 nt18
 have Y126 := Y102.other W106 ne32
 refine o_q T106 (o_f21 m 68 pp start ending (-1 : Int32) kp []) st106 ?_
 have ja : kp.toNatClampNeg = 3 * q8 := by
  have r1 := rng32 kp
  have n0 := o_nat (kp) (by omega)
  omega
 have jb : ((kp + (1 : Int32))).toNatClampNeg = 3 * q8 + 1 := by
  have r1 := rng32 kp
  have k2 : (1 : Int32).toInt = 1 := by decide
  have e3 : ((kp + (1 : Int32))).toInt = kp.toInt + 1 := by
   rw [Jvm.Free.XT.add32 ⟨by rw [show (1 : Int32).toInt = 1 from by decide]; omega, by rw [show (1 : Int32).toInt = 1 from by decide]; omega⟩]; rw [show (1 : Int32).toInt = 1 from by decide]
  have n0 := o_nat ((kp + (1 : Int32))) (by omega)
  omega
 have jc : ((kp + (2 : Int32))).toNatClampNeg = 3 * q8 + 2 := by
  have r1 := rng32 kp
  have k2 : (2 : Int32).toInt = 2 := by decide
  have e3 : ((kp + (2 : Int32))).toInt = kp.toInt + 2 := by
   rw [Jvm.Free.XT.add32 ⟨by rw [show (2 : Int32).toInt = 2 from by decide]; omega, by rw [show (2 : Int32).toInt = 2 from by decide]; omega⟩]; rw [show (2 : Int32).toInt = 2 from by decide]
  have n0 := o_nat ((kp + (2 : Int32))) (by omega)
  omega
 have RC : o_LA Z h106 rc (24 : Int32) (o_put rs (cn + 1) start ending (0 : Int64)) := A106.congr fun i _ => by
  rw [d_f106, d_f82, d_f58]
  dsimp only [o_put]
  rw [ja, jb, jc, hq8]
 refine o_q T106 (o_f21 m 70 pp start ending (-1 : Int32) kp [(.int (-1 : Int32))]) (fun _ k => XS.iload X106.here hx rfl (hb hby o_d7_68) rfl k) ?_
 refine o_q T106 (o_f21 m 81 pp start ending (-1 : Int32) kp []) (fun _ k => XS.ifYes X106.here hx rfl (pc0 := 70) (pc' := 81) rfl (hb hby o_d7_70) rfl ((if0 _ _).trans (flt (by decide : ¬ ((0 : Int32) < (-1 : Int32)))).2.2.2) (by decide) (by decide) k) ?_
 refine o_q T106 (o_f21 m 82 pp start ending (-1 : Int32) kp [(.ref pp)]) (fun _ k => XS.aloadN X106.here hx rfl (hb hby o_d7_81) rfl rfl k) ?_
 refine o_q T106 (o_f21 m 83 pp start ending (-1 : Int32) kp [(.ref pp), (.ref pp)]) (fun _ k => XS.aloadN X106.here hx rfl (hb hby o_d7_82) rfl rfl k) ?_
 obtain ⟨T128, X128, e128, st128⟩ := getF X106 hx hZ hown (host := "") (Or.inl (o_m hw 48 rfl)) Via.refl e106 Y114 (g := (o_f21 m 83 pp start ending (-1 : Int32) kp [(.ref pp), (.ref pp)])) rfl rfl (hb hby o_d7_83)
 refine o_q T128 (o_f21 m 86 pp start ending (-1 : Int32) kp [(.int tl), (.ref pp)]) st128 ?_
 refine o_q T128 (o_f21 m 87 pp start ending (-1 : Int32) kp [(.int (2 : Int32)), (.int tl), (.ref pp)]) (fun _ k => XS.iconst X128.here hx rfl (hb hby o_d7_86) k) ?_
 refine o_q T128 (o_f21 m 88 pp start ending (-1 : Int32) kp [(.int (tl + (2 : Int32))), (.ref pp)]) (fun _ k => XS.iadd X128.here hx rfl (hb hby o_d7_87) rfl k) ?_
 have hP129 : o_Pr Z n0 pp rc ru wa tm fr tl la L (ch + (1 : Int64)) gb xs fs (o_put rs (cn + 1) start ending (0 : Int64)) h106 := ⟨Y107, Y108, Y109, Y110, Y111, Y112, Y113, Y114, Y115, Y116, Y117, Y118, Y119, Y120, Y121, Y122, Y123, Y124, Y125, Y126, RC, nt18, wl18, gp18, gt18, gf18, gr18, gu18⟩
 have q130 : ((tl + (2 : Int32))).toInt ≤ L.toInt := by
  have r1 := rng32 tl
  have k2 : (2 : Int32).toInt = 2 := by decide
  have e3 : ((tl + (2 : Int32))).toInt = tl.toInt + 2 := by
   rw [Jvm.Free.XT.add32 ⟨by rw [show (2 : Int32).toInt = 2 from by decide]; omega, by rw [show (2 : Int32).toInt = 2 from by decide]; omega⟩]; rw [show (2 : Int32).toInt = 2 from by decide]
  have r4 := rng32 L
  omega
 obtain ⟨v131, T131, L131, hQ131, X131, st131⟩ := o_callP X128 hx hZ e128 hown (o_m hw 80 rfl) (o_m hw 81 rfl) (o_m hw 8 rfl) (o_m hw 82 rfl) (by decide) (a := pp) Y107 (o_m hw 83 rfl) (o_m hw 9 rfl) (o_room0 l Z a0 hw n0 pp rc ru wa tm fr tl la L (ch + (1 : Int64)) gb xs fs (o_put rs (cn + 1) start ending (0 : Int64)) (tl + (2 : Int32)) h106 hP129 q130) (g := (o_f21 m 88 pp start ending (-1 : Int32) kp [(.int (tl + (2 : Int32))), (.ref pp)])) rfl (by rw [hml]; rfl) rfl (argsL := [(.int (tl + (2 : Int32)))]) (rest := []) rfl (lenOf o_pd1 rfl) rfl (hb hby o_d7_88) (o_b rfl) (o_b rfl) (o_b rfl) (o_b rfl)
 obtain ⟨rfl, rfl, e131⟩ := hQ131
 rw [List.append_nil] at X131
 refine o_q T131 (o_f21 m 91 pp start ending (-1 : Int32) kp [(.int (0 : Int32))]) st131 ?_
 refine o_q T131 (o_f21 m 92 pp start ending (-1 : Int32) kp []) (fun _ k => XS.pop X131.here hx rfl (hb hby o_d7_91) rfl rfl k) ?_
 refine o_q T131 (o_f21 m 93 pp start ending (-1 : Int32) kp [(.ref pp)]) (fun _ k => XS.aloadN X131.here hx rfl (hb hby o_d7_92) rfl rfl k) ?_
 refine o_q T131 (o_f21 m 94 pp start ending (-1 : Int32) kp [(.long start), (.ref pp)]) (fun _ k => XS.lloadN X131.here hx rfl (hb hby o_d7_93) rfl k) ?_
 have q132 : 1 ≤ tl.toInt := by
  have r1 := rng32 tl
  omega
 have q133 : tl.toInt ≤ L.toInt := by
  have r1 := rng32 tl
  have r2 := rng32 L
  omega
 have q134 : L.toInt ≤ 32 := by
  have r1 := rng32 L
  omega
 have q135 : tl.toInt + 1 ≤ L.toInt := by
  have r1 := rng32 tl
  have r2 := rng32 L
  omega
 have hP136 : o_Pr Z n0 pp rc ru wa tm fr tl la L (ch + (1 : Int64)) gb xs fs (o_put rs (cn + 1) start ending (0 : Int64)) h106 := ⟨Y107, Y108, Y109, Y110, Y111, Y112, Y113, Y114, Y115, Y116, Y117, Y118, Y119, Y120, Y121, Y122, Y123, Y124, Y125, Y126, RC, nt18, wl18, gp18, gt18, gf18, gr18, gu18⟩
 obtain ⟨v137, T137, L137, hQ137, X137, st137⟩ := o_callP X131 hx hZ e131 hown (o_m hw 84 rfl) (o_m hw 85 rfl) (o_m hw 8 rfl) (o_m hw 86 rfl) (by decide) (a := pp) Y107 (o_m hw 87 rfl) (o_m hw 9 rfl) (o_split l Z a0 hw n0 pp rc ru wa tm fr tl la L (ch + (1 : Int64)) gb xs fs (o_put rs (cn + 1) start ending (0 : Int64)) start h106 hP136 q132 q133 q134 q135) (g := (o_f21 m 94 pp start ending (-1 : Int32) kp [(.long start), (.ref pp)])) rfl (by rw [hml]; rfl) rfl (argsL := [(.long start)]) (rest := []) rfl (lenOf o_pd7 rfl) rfl (hb hby o_d7_94) (o_b rfl) (o_b rfl) (o_b rfl) (o_b rfl)
 obtain ⟨h137, e137⟩ : ∃ z, T137.heap = z := ⟨_, rfl⟩
 rw [e137] at hQ137
 obtain ⟨r137, tl137, la137, xs137, fs137, rfl, N137, hR137, pa137, pb137, pc137, pd137, pe137, pf137, pg137⟩ := hQ137
 have N_137 := Fr.app N_106 N137
 obtain ⟨Ep138, Er138, Ew138, F138_cpus, F138_times, F138_free, F138_head, F138_tail, F138_lastAt, F138_runs, F138_firstKnown, F138_watcher, F138_watchedAs, F138_changes, F138_merged, F138_gaveBack, F138_recent, Fn138, At138, Af138, Ar138, nt138, wl138, gp138, gt138, gf138, gr138, gu138⟩ := hR137
 have ne139 : o_ne pp ru := Ep138.ne Er138 (by decide)
 have ne140 : o_ne pp tm := At138.neExa Ep138 (o_m hw 8 rfl)
 have ne141 : o_ne ru tm := At138.neExa Er138 (o_m hw 17 rfl)
 have ne142 : o_ne pp fr := Af138.neExa Ep138 (o_m hw 8 rfl)
 have ne143 : o_ne ru fr := Af138.neExa Er138 (o_m hw 17 rfl)
 have ne144 : o_ne pp rc := Ar138.neExa Ep138 (o_m hw 8 rfl)
 have ne145 : o_ne ru rc := Ar138.neExa Er138 (o_m hw 17 rfl)
 have ne146 : o_ne wa pp := Nat.ne_of_lt (Nat.lt_of_lt_of_le wl138 gp138)
 have ne147 : o_ne wa tm := Nat.ne_of_lt (Nat.lt_of_lt_of_le wl138 gt138)
 have ne148 : o_ne wa fr := Nat.ne_of_lt (Nat.lt_of_lt_of_le wl138 gf138)
 have ne149 : o_ne wa rc := Nat.ne_of_lt (Nat.lt_of_lt_of_le wl138 gr138)
 have ne150 : o_ne wa ru := Nat.ne_of_lt (Nat.lt_of_lt_of_le wl138 gu138)
 have ne151 : o_ne tm fr := At138.ne Af138 (by intro q; cases q)
 have ne152 : o_ne fr rc := Af138.ne Ar138 (by intro q; cases q)
 refine o_q T137 (o_f21 m 97 pp start ending (-1 : Int32) kp [(.int r137)]) st137 ?_
 refine o_q T137 (o_f22 m 99 pp start ending (-1 : Int32) kp r137 []) (fun _ k => XS.istore X137.here hx rfl (hb hby o_d7_97) rfl (l' := (o_t22 pp start ending (-1 : Int32) kp r137)) rfl k) ?_
 refine o_q T137 (o_f22 m 100 pp start ending (-1 : Int32) kp r137 [(.ref pp)]) (fun _ k => XS.aloadN X137.here hx rfl (hb hby o_d7_99) rfl rfl k) ?_
 refine o_q T137 (o_f22 m 101 pp start ending (-1 : Int32) kp r137 [(.long ending), (.ref pp)]) (fun _ k => XS.lloadN X137.here hx rfl (hb hby o_d7_100) rfl k) ?_
 have q153 : 1 ≤ tl137.toInt := by
  have r1 := rng32 tl137
  omega
 have q154 : tl137.toInt ≤ L.toInt := by
  have r1 := rng32 tl137
  have r2 := rng32 L
  omega
 have q155 : L.toInt ≤ 32 := by
  have r1 := rng32 L
  omega
 have q156 : tl137.toInt + 1 ≤ L.toInt := by
  have r1 := rng32 tl137
  have r2 := rng32 L
  omega
 have hP157 : o_Pr Z n0 pp rc ru wa tm fr tl137 la137 L (ch + (1 : Int64)) gb xs137 fs137 (o_put rs (cn + 1) start ending (0 : Int64)) h137 := ⟨Ep138, Er138, Ew138, F138_cpus, F138_times, F138_free, F138_head, F138_tail, F138_lastAt, F138_runs, F138_firstKnown, F138_watcher, F138_watchedAs, F138_changes, F138_merged, F138_gaveBack, F138_recent, Fn138, At138, Af138, Ar138, nt138, wl138, gp138, gt138, gf138, gr138, gu138⟩
 obtain ⟨v158, T158, L158, hQ158, X158, st158⟩ := o_callP X137 hx hZ e137 hown (o_m hw 84 rfl) (o_m hw 85 rfl) (o_m hw 8 rfl) (o_m hw 86 rfl) (by decide) (a := pp) Ep138 (o_m hw 87 rfl) (o_m hw 9 rfl) (o_split l Z a0 hw n0 pp rc ru wa tm fr tl137 la137 L (ch + (1 : Int64)) gb xs137 fs137 (o_put rs (cn + 1) start ending (0 : Int64)) ending h137 hP157 q153 q154 q155 q156) (g := (o_f22 m 101 pp start ending (-1 : Int32) kp r137 [(.long ending), (.ref pp)])) rfl (by rw [hml]; rfl) rfl (argsL := [(.long ending)]) (rest := []) rfl (lenOf o_pd7 rfl) rfl (hb hby o_d7_101) (o_b rfl) (o_b rfl) (o_b rfl) (o_b rfl)
 obtain ⟨h158, e158⟩ : ∃ z, T158.heap = z := ⟨_, rfl⟩
 rw [e158] at hQ158
 obtain ⟨r158, tl158, la158, xs158, fs158, rfl, N158, hR158, pa158, pb158, pc158, pd158, pe158, pf158, pg158⟩ := hQ158
 have N_158 := Fr.app N_137 N158
 obtain ⟨Ep159, Er159, Ew159, F159_cpus, F159_times, F159_free, F159_head, F159_tail, F159_lastAt, F159_runs, F159_firstKnown, F159_watcher, F159_watchedAs, F159_changes, F159_merged, F159_gaveBack, F159_recent, Fn159, At159, Af159, Ar159, nt159, wl159, gp159, gt159, gf159, gr159, gu159⟩ := hR158
 have ne160 : o_ne pp ru := Ep159.ne Er159 (by decide)
 have ne161 : o_ne pp tm := At159.neExa Ep159 (o_m hw 8 rfl)
 have ne162 : o_ne ru tm := At159.neExa Er159 (o_m hw 17 rfl)
 have ne163 : o_ne pp fr := Af159.neExa Ep159 (o_m hw 8 rfl)
 have ne164 : o_ne ru fr := Af159.neExa Er159 (o_m hw 17 rfl)
 have ne165 : o_ne pp rc := Ar159.neExa Ep159 (o_m hw 8 rfl)
 have ne166 : o_ne ru rc := Ar159.neExa Er159 (o_m hw 17 rfl)
 have ne167 : o_ne wa pp := Nat.ne_of_lt (Nat.lt_of_lt_of_le wl159 gp159)
 have ne168 : o_ne wa tm := Nat.ne_of_lt (Nat.lt_of_lt_of_le wl159 gt159)
 have ne169 : o_ne wa fr := Nat.ne_of_lt (Nat.lt_of_lt_of_le wl159 gf159)
 have ne170 : o_ne wa rc := Nat.ne_of_lt (Nat.lt_of_lt_of_le wl159 gr159)
 have ne171 : o_ne wa ru := Nat.ne_of_lt (Nat.lt_of_lt_of_le wl159 gu159)
 have ne172 : o_ne tm fr := At159.ne Af159 (by intro q; cases q)
 have ne173 : o_ne fr rc := Af159.ne Ar159 (by intro q; cases q)
 refine o_q T158 (o_f22 m 104 pp start ending (-1 : Int32) kp r137 [(.int r158)]) st158 ?_
 refine o_q T158 (o_f23 m 106 pp start ending (-1 : Int32) kp r137 r158 []) (fun _ k => XS.istore X158.here hx rfl (hb hby o_d7_104) rfl (l' := (o_t23 pp start ending (-1 : Int32) kp r137 r158)) rfl k) ?_
 refine o_q T158 (o_f23 m 108 pp start ending (-1 : Int32) kp r137 r158 [(.int r137)]) (fun _ k => XS.iload X158.here hx rfl (hb hby o_d7_106) rfl k) ?_
 refine o_q T158 (o_f19 m 110 pp start ending (-1 : Int32) kp r137 r158 r137 []) (fun _ k => XS.istore X158.here hx rfl (hb hby o_d7_108) rfl (l' := (o_t19 pp start ending (-1 : Int32) kp r137 r158 r137)) rfl k) ?_
 have hP174 : o_Pr Z n0 pp rc ru wa tm fr tl158 la158 L (ch + (1 : Int64)) gb xs158 fs158 (o_put rs (cn + 1) start ending (0 : Int64)) h158 := ⟨Ep159, Er159, Ew159, F159_cpus, F159_times, F159_free, F159_head, F159_tail, F159_lastAt, F159_runs, F159_firstKnown, F159_watcher, F159_watchedAs, F159_changes, F159_merged, F159_gaveBack, F159_recent, Fn159, At159, Af159, Ar159, nt159, wl159, gp159, gt159, gf159, gr159, gu159⟩
 have n0175 : 1 ≤ tl.toNatClampNeg := by
  have r1 := rng32 tl
  have n0 := o_nat (tl) (by omega)
  omega
 have n1175 : 1 ≤ tl137.toNatClampNeg := by
  have r1 := rng32 tl137
  have n0 := o_nat (tl137) (by omega)
  omega
 have S0175 : o_S lo hi tl.toNatClampNeg xs fs := Sg
 have x0175 : xs 0 = xs 0 := rfl
 have S1175 := o_Ssplit n0175 S0175 (fun q => by rw [x0175]; exact hz q) pe137 pg137
 have S2175 := o_Ssplit n1175 S1175 (fun q => by rw [pf137, x0175]; exact o_lt3 (hz q) hse) pe158 pg158
 obtain ⟨S3175, U3175⟩ := o_Sinit Dd S2175
 have q176 : 1 ≤ tl158.toInt := by
  have r1 := rng32 tl158
  omega
 have q177 : tl158.toInt ≤ L.toInt := by
  have r1 := rng32 tl158
  have r2 := rng32 L
  omega
 have q178 : L.toInt ≤ 32 := by
  have r1 := rng32 L
  omega
 have q179 : r158.toInt < tl158.toInt := by
  have r1 := rng32 r158
  have r2 := rng32 tl158
  omega
 have q180 : 0 ≤ r158.toInt := by
  have r1 := rng32 r158
  omega
 have q181 : 0 ≤ r137.toInt := by
  have r1 := rng32 r137
  omega
 have q182 : r137.toInt ≤ 33 := by
  have r1 := rng32 r137
  have r2 := rng32 tl137
  have r3 := rng32 tl158
  omega
 have q183 : 0 ≤ r137.toInt := by
  have r1 := rng32 r137
  omega
 have q184 : r158.toInt - r137.toInt + 40 ≤ (100 : Nat) := by
  have r1 := rng32 r158
  have r2 := rng32 r137
  have r3 := rng32 tl158
  omega
 have GL := o_addN_m1_loop Z a0 hw n0 pp rc ru wa tm fr tl158 la158 L (ch + (1 : Int64)) gb xs158 (o_put rs (cn + 1) start ending (0 : Int64)) kp r137 r158 start ending lo hi lo1 hi1 q176 q177 q178 q179 q180 q181 Dd hx hby hml hZ hown hret hlk 100 r137 fs158 _ _ X158 e158 N_158 hP174 q182 q183 q184 S3175 (fun j _ h => U3175 j h)
 have q185 : tl158.toInt ≤ tl.toInt + 2 := by
  have r1 := rng32 tl137
  have r2 := rng32 tl158
  have r3 := rng32 tl
  omega
 exact o_mono (fun v h Ls ⟨tl', xs', fs', a1, a2, a3, a4, a5, a6, a7⟩ => ⟨tm, fr, tl', la158, xs', fs', a1, a2, a3, a4, Int.le_trans a5 q185, by rw [a6, pf158, pf137, x0175], a7⟩) GL
set_option maxRecDepth 65536 in
set_option maxHeartbeats 40000000 in
theorem o_addG_m1_loop {p : Program} {l : Launch} {e : Env} {s : State} {m : MethodId} {below : List Frame} {meth : Method} {c : Code} (Z : State) (a0 : Array Value) (hw : ∀ d ∈ tables_1, d.before a0 Z = true) (n0 : Nat) (pp rc ru wa tmx frx : Addr) (tlx lax L2 : Int32) (chx gbx : Int64) (xsx : Nat → Int64) (rsx : Nat → Int64) (kp fst aft : Int32) (start ending : Int64) (lo hi lo1 hi1 : Int) (i1 : 1 ≤ tlx.toInt) (i2 : tlx.toInt ≤ L2.toInt) (i3 : L2.toInt ≤ 32) (f1 : aft.toInt < tlx.toInt) (f2 : 0 ≤ aft.toInt) (f3 : 0 ≤ fst.toInt) (Dd : o_D lo hi lo1 hi1 (-1))
  (hx : p.tables.exec = Jvm.exec) (hby : c.code = o_y12) (hml : c.maxLocals = 10) (hZ : Z.Warmed39 s.vm) (hown : s.vm.findClass o_n1 = some m.cls) (hret : meth.sig.returnType = none) (hlk : meth.locks = false) :
  ∀ (k : Nat) (kk : Int32) (fsc : Nat → Int32) (locs : List Loc) (hh : Heap) {T : State} (X0 : Stand p l e (o_R 5 2 64 100) s m #[(.ref pp), (.long start), (.long ending), (.int (-1 : Int32))] below meth c T locs 2 64) (e0 : T.heap = hh), Fr n0 locs → o_Pr Z n0 pp rc ru wa tmx frx tlx lax L2 chx gbx xsx fsc rsx hh → kk.toInt ≤ 33 → 0 ≤ kk.toInt → aft.toInt - kk.toInt + 40 ≤ (k : Int) → o_S lo1 hi1 tlx.toNatClampNeg xsx fsc → (∀ j, kk.toNatClampNeg ≤ j → j + 1 < tlx.toNatClampNeg → lo ≤ (fsc j).toInt ∧ (fsc j).toInt ≤ hi) → o_G p e below s (fun v h Ls => ∃ (tl' : Int32) (xs' : Nat → Int64) (fs' : Nat → Int32), v = none ∧ Fr n0 Ls ∧ o_Pr Z n0 pp rc ru wa tmx frx tl' lax L2 chx gbx xs' fs' rsx h ∧ 1 ≤ tl'.toInt ∧ tl'.toInt ≤ tlx.toInt ∧ xs' 0 = xsx 0 ∧ o_S lo1 hi1 tl'.toNatClampNeg xs' fs') 2 64 T (o_f19 m 110 pp start ending (-1 : Int32) kp fst aft kk []) := by
 intro k
 induction k with
 | zero => intro kk fsc locs hh T X0 e0 NL hP g1 g0 g2 Sx Uk; exfalso; omega
 | succ k ih =>
 intro kk fsc locs hh T X0 e0 NL hP g1 g0 g2 Sx Uk
 obtain ⟨Ep1, Er1, Ew1, F1_cpus, F1_times, F1_free, F1_head, F1_tail, F1_lastAt, F1_runs, F1_firstKnown, F1_watcher, F1_watchedAs, F1_changes, F1_merged, F1_gaveBack, F1_recent, Fn1, At1, Af1, Ar1, nt1, wl1, gp1, gt1, gf1, gr1, gu1⟩ := hP
 have ne2 : o_ne pp ru := Ep1.ne Er1 (by decide)
 have ne3 : o_ne pp tmx := At1.neExa Ep1 (o_m hw 8 rfl)
 have ne4 : o_ne ru tmx := At1.neExa Er1 (o_m hw 17 rfl)
 have ne5 : o_ne pp frx := Af1.neExa Ep1 (o_m hw 8 rfl)
 have ne6 : o_ne ru frx := Af1.neExa Er1 (o_m hw 17 rfl)
 have ne7 : o_ne pp rc := Ar1.neExa Ep1 (o_m hw 8 rfl)
 have ne8 : o_ne ru rc := Ar1.neExa Er1 (o_m hw 17 rfl)
 have ne9 : o_ne wa pp := Nat.ne_of_lt (Nat.lt_of_lt_of_le wl1 gp1)
 have ne10 : o_ne wa tmx := Nat.ne_of_lt (Nat.lt_of_lt_of_le wl1 gt1)
 have ne11 : o_ne wa frx := Nat.ne_of_lt (Nat.lt_of_lt_of_le wl1 gf1)
 have ne12 : o_ne wa rc := Nat.ne_of_lt (Nat.lt_of_lt_of_le wl1 gr1)
 have ne13 : o_ne wa ru := Nat.ne_of_lt (Nat.lt_of_lt_of_le wl1 gu1)
 have ne14 : o_ne tmx frx := At1.ne Af1 (by intro q; cases q)
 have ne15 : o_ne frx rc := Af1.ne Ar1 (by intro q; cases q)
 refine o_q T (o_f19 m 112 pp start ending (-1 : Int32) kp fst aft kk [(.int kk)]) (fun _ k => XS.iload X0.here hx rfl (hb hby o_d7_110) rfl k) ?_
 refine o_q T (o_f19 m 114 pp start ending (-1 : Int32) kp fst aft kk [(.int aft), (.int kk)]) (fun _ k => XS.iload X0.here hx rfl (hb hby o_d7_112) rfl k) ?_
 by_cases c0 : kk < aft
 ·refine o_q T (o_f19 m 117 pp start ending (-1 : Int32) kp fst aft kk []) (fun _ k => XS.icmpNo X0.here hx rfl (hb hby o_d7_114) rfl (tlt c0).2.1 k) ?_
  refine o_q T (o_f19 m 118 pp start ending (-1 : Int32) kp fst aft kk [(.ref pp)]) (fun _ k => XS.aloadN X0.here hx rfl (hb hby o_d7_117) rfl rfl k) ?_
  obtain ⟨T16, X16, e16, st16⟩ := getF X0 hx hZ hown (host := "") (Or.inl (o_m hw 46 rfl)) Via.refl e0 F1_free (g := (o_f19 m 118 pp start ending (-1 : Int32) kp fst aft kk [(.ref pp)])) rfl rfl (hb hby o_d7_118)
  refine o_q T16 (o_f19 m 121 pp start ending (-1 : Int32) kp fst aft kk [(.ref frx)]) st16 ?_
  refine o_q T16 (o_f19 m 123 pp start ending (-1 : Int32) kp fst aft kk [(.int kk), (.ref frx)]) (fun _ k => XS.iload X16.here hx rfl (hb hby o_d7_121) rfl k) ?_
  refine o_q T16 (o_f19 m 124 pp start ending (-1 : Int32) kp fst aft kk [(.int kk), (.ref frx), (.int kk), (.ref frx)]) (fun _ k => Jvm.Free.XT.dup2 X16.here hx rfl (hb hby o_d7_123) rfl rfl rfl k) ?_
  have hin17 : ¬ (kk < (0 : Int32)) ∧ kk < L2 := by
   have r1 := rng32 kk
   have r2 := rng32 L2
   have k3 : (0 : Int32).toInt = 0 := by decide
   have r4 := rng32 aft
   have d0 : kk.toInt < aft.toInt := Int32.lt_iff_toInt_lt.mp c0
   rw [Int32.lt_iff_toInt_lt, Int32.lt_iff_toInt_lt]
   omega
  refine o_q T16 (o_f19 m 125 pp start ending (-1 : Int32) kp fst aft kk [(.int (fsc kk.toNatClampNeg)), (.int kk), (.ref frx)]) (fun _ k => o_ldI X16 hx hZ e16 Af1 hin17 (g := (o_f19 m 124 pp start ending (-1 : Int32) kp fst aft kk [(.int kk), (.ref frx), (.int kk), (.ref frx)])) rfl rfl (hb hby o_d7_124) _ k) ?_
  refine o_q T16 (o_f19 m 127 pp start ending (-1 : Int32) kp fst aft kk [(.int (-1 : Int32)), (.int (fsc kk.toNatClampNeg)), (.int kk), (.ref frx)]) (fun _ k => XS.iload X16.here hx rfl (hb hby o_d7_125) rfl k) ?_
  refine o_q T16 (o_f19 m 128 pp start ending (-1 : Int32) kp fst aft kk [(.int ((fsc kk.toNatClampNeg) + (-1 : Int32))), (.int kk), (.ref frx)]) (fun _ k => XS.iadd X16.here hx rfl (hb hby o_d7_127) rfl k) ?_
  have hin18 : ¬ (kk < (0 : Int32)) ∧ kk < L2 := by
   have r1 := rng32 kk
   have r2 := rng32 L2
   have k3 : (0 : Int32).toInt = 0 := by decide
   have r4 := rng32 aft
   have d0 : kk.toInt < aft.toInt := Int32.lt_iff_toInt_lt.mp c0
   rw [Int32.lt_iff_toInt_lt, Int32.lt_iff_toInt_lt]
   omega
  obtain ⟨T19, h19, X19, e19, W19, A19, st19⟩ := o_stI X16 hx hZ e16 Af1 hin18 (g := (o_f19 m 128 pp start ending (-1 : Int32) kp fst aft kk [(.int ((fsc kk.toNatClampNeg) + (-1 : Int32))), (.int kk), (.ref frx)])) rfl rfl (hb hby o_d7_128)
  obtain ⟨f19, d_f19⟩ : ∃ z : Nat → Int32, z = (fun i => if i = kk.toNatClampNeg then ((fsc kk.toNatClampNeg) + (-1 : Int32)) else fsc i) := ⟨_, rfl⟩
  rw [← d_f19] at A19
  have N_19 := Fr.snoc X19 NL gf1
  have Y20 := Ep1.wr W19
  have Y21 := Er1.wr W19
  have Y22 := Ew1.wr W19
  have Y23 := F1_cpus.other W19 (Or.inl ne5)
  have Y24 := F1_times.other W19 (Or.inl ne5)
  have Y25 := F1_free.other W19 (Or.inl ne5)
  have Y26 := F1_head.other W19 (Or.inl ne5)
  have Y27 := F1_tail.other W19 (Or.inl ne5)
  have Y28 := F1_lastAt.other W19 (Or.inl ne5)
  have Y29 := F1_runs.other W19 (Or.inl ne5)
  have Y30 := F1_firstKnown.other W19 (Or.inl ne5)
  have Y31 := F1_watcher.other W19 (Or.inl ne5)
  have Y32 := F1_watchedAs.other W19 (Or.inl ne5)
  have Y33 := F1_changes.other W19 (Or.inl ne5)
  have Y34 := F1_merged.other W19 (Or.inl ne5)
  have Y35 := F1_gaveBack.other W19 (Or.inl ne5)
  have Y36 := F1_recent.other W19 (Or.inl ne5)
  have Y37 := Fn1.other W19 (Or.inl ne6)
  have Y38 := At1.other W19 ne14
  have Y40 := Ar1.other W19 (Ne.symm ne15)
  refine o_q T19 (o_f19 m 129 pp start ending (-1 : Int32) kp fst aft kk []) st19 ?_
  refine o_q T19 (o_f19 m 130 pp start ending (-1 : Int32) kp fst aft kk [(.ref pp)]) (fun _ k => XS.aloadN X19.here hx rfl (hb hby o_d7_129) rfl rfl k) ?_
  refine o_q T19 (o_f19 m 131 pp start ending (-1 : Int32) kp fst aft kk [(.ref pp), (.ref pp)]) (fun _ k => XS.aloadN X19.here hx rfl (hb hby o_d7_130) rfl rfl k) ?_
  obtain ⟨T41, X41, e41, st41⟩ := getF X19 hx hZ hown (host := "") (Or.inl (o_m hw 46 rfl)) Via.refl e19 Y25 (g := (o_f19 m 131 pp start ending (-1 : Int32) kp fst aft kk [(.ref pp), (.ref pp)])) rfl rfl (hb hby o_d7_131)
  refine o_q T41 (o_f19 m 134 pp start ending (-1 : Int32) kp fst aft kk [(.ref frx), (.ref pp)]) st41 ?_
  refine o_q T41 (o_f19 m 136 pp start ending (-1 : Int32) kp fst aft kk [(.int kk), (.ref frx), (.ref pp)]) (fun _ k => XS.iload X41.here hx rfl (hb hby o_d7_134) rfl k) ?_
  have hin42 : ¬ (kk < (0 : Int32)) ∧ kk < L2 := by
   have r1 := rng32 kk
   have r2 := rng32 L2
   have k3 : (0 : Int32).toInt = 0 := by decide
   have r4 := rng32 aft
   have d0 : kk.toInt < aft.toInt := Int32.lt_iff_toInt_lt.mp c0
   rw [Int32.lt_iff_toInt_lt, Int32.lt_iff_toInt_lt]
   omega
  refine o_q T41 (o_f19 m 137 pp start ending (-1 : Int32) kp fst aft kk [(.int (f19 kk.toNatClampNeg)), (.ref pp)]) (fun _ k => o_ldI X41 hx hZ e41 A19 hin42 (g := (o_f19 m 136 pp start ending (-1 : Int32) kp fst aft kk [(.int kk), (.ref frx), (.ref pp)])) rfl rfl (hb hby o_d7_136) _ k) ?_
  refine o_q T41 (o_f19 m 138 pp start ending (-1 : Int32) kp fst aft kk [(.ref pp), (.int (f19 kk.toNatClampNeg)), (.ref pp)]) (fun _ k => XS.aloadN X41.here hx rfl (hb hby o_d7_137) rfl rfl k) ?_
  obtain ⟨T43, X43, e43, st43⟩ := getF X41 hx hZ hown (host := "") (Or.inl (o_m hw 43 rfl)) Via.refl e41 Y24 (g := (o_f19 m 138 pp start ending (-1 : Int32) kp fst aft kk [(.ref pp), (.int (f19 kk.toNatClampNeg)), (.ref pp)])) rfl rfl (hb hby o_d7_138)
  refine o_q T43 (o_f19 m 141 pp start ending (-1 : Int32) kp fst aft kk [(.ref tmx), (.int (f19 kk.toNatClampNeg)), (.ref pp)]) st43 ?_
  refine o_q T43 (o_f19 m 143 pp start ending (-1 : Int32) kp fst aft kk [(.int kk), (.ref tmx), (.int (f19 kk.toNatClampNeg)), (.ref pp)]) (fun _ k => XS.iload X43.here hx rfl (hb hby o_d7_141) rfl k) ?_
  have hin44 : ¬ (kk < (0 : Int32)) ∧ kk < L2 := by
   have r1 := rng32 kk
   have r2 := rng32 L2
   have k3 : (0 : Int32).toInt = 0 := by decide
   have r4 := rng32 aft
   have d0 : kk.toInt < aft.toInt := Int32.lt_iff_toInt_lt.mp c0
   rw [Int32.lt_iff_toInt_lt, Int32.lt_iff_toInt_lt]
   omega
  refine o_q T43 (o_f19 m 144 pp start ending (-1 : Int32) kp fst aft kk [(.long (xsx kk.toNatClampNeg)), (.int (f19 kk.toNatClampNeg)), (.ref pp)]) (fun _ k => o_ldJ X43 hx hZ e43 Y38 hin44 (g := (o_f19 m 143 pp start ending (-1 : Int32) kp fst aft kk [(.int kk), (.ref tmx), (.int (f19 kk.toNatClampNeg)), (.ref pp)])) rfl rfl (hb hby o_d7_143) _ k) ?_
  have ev45 : (f19 kk.toNatClampNeg) = fsc kk.toNatClampNeg + (-1 : Int32) := by rw [d_f19]; dsimp only; rw [if_pos rfl]
  have kn45 : kk.toNatClampNeg + 1 < tlx.toNatClampNeg := by
   have r1 := rng32 kk
   have r2 := rng32 aft
   have r3 := rng32 tlx
   have d0 : kk.toInt < aft.toInt := Int32.lt_iff_toInt_lt.mp c0
   have n0 := o_nat (kk) (by omega)
   have n1 := o_nat (tlx) (by omega)
   omega
  have bb45 := Uk _ (Nat.le_refl _) kn45
  have Dq45 := Dd
  obtain ⟨-, -, -, -, q5, q6, -, -⟩ := Dq45
  have vv45 := o_vv_m1 _ _ lo hi bb45 q5 q6 ev45
  obtain ⟨v46, T46, L46, hQ46, X46, st46⟩ := o_callP X43 hx hZ e43 hown (o_m hw 113 rfl) (o_m hw 114 rfl) (o_m hw 8 rfl) (o_m hw 115 rfl) (by decide) (a := pp) Y20 (o_m hw 116 rfl) (o_m hw 9 rfl) (o_k16_6 l Z a0 hw pp (f19 kk.toNatClampNeg) (xsx kk.toNatClampNeg) h19 (o_nlt0 vv45.2.1) Y23 (o_nlt16 vv45.2.2)) (g := (o_f19 m 144 pp start ending (-1 : Int32) kp fst aft kk [(.long (xsx kk.toNatClampNeg)), (.int (f19 kk.toNatClampNeg)), (.ref pp)])) rfl (by rw [hml]; rfl) rfl (argsL := [(.int (f19 kk.toNatClampNeg)), (.long (xsx kk.toNatClampNeg))]) (rest := []) rfl (lenOf o_pd6 rfl) rfl (hb hby o_d7_144) (o_b rfl) (o_b rfl) (o_b rfl) (o_b rfl)
  obtain ⟨rfl, rfl, e46⟩ := hQ46
  rw [List.append_nil] at X46
  refine o_q T46 (o_f19 m 147 pp start ending (-1 : Int32) kp fst aft kk []) st46 ?_
  refine o_q T46 (o_f19 m 150 pp start ending (-1 : Int32) kp fst aft (kk + (1 : Int32)) []) (fun _ k => XS.iinc X46.here hx rfl (hb hby o_d7_147) rfl (l' := (o_t19 pp start ending (-1 : Int32) kp fst aft (kk + (1 : Int32)))) rfl k) ?_
  refine o_q T46 (o_f19 m 110 pp start ending (-1 : Int32) kp fst aft (kk + (1 : Int32)) []) (fun _ k => XS.goto X46.here hx rfl (pc0 := 150) (pc' := 110) rfl (hb hby o_d7_150) (by decide) (by decide) k) ?_
  have hP47 : o_Pr Z n0 pp rc ru wa tmx frx tlx lax L2 chx gbx xsx f19 rsx h19 := ⟨Y20, Y21, Y22, Y23, Y24, Y25, Y26, Y27, Y28, Y29, Y30, Y31, Y32, Y33, Y34, Y35, Y36, Y37, Y38, A19, Y40, nt1, wl1, gp1, gt1, gf1, gr1, gu1⟩
  have q49 : ((kk + (1 : Int32))).toInt ≤ 33 := by
   have r1 := rng32 kk
   have k2 : (1 : Int32).toInt = 1 := by decide
   have e3 : ((kk + (1 : Int32))).toInt = kk.toInt + 1 := by
    rw [Jvm.Free.XT.add32 ⟨by rw [show (1 : Int32).toInt = 1 from by decide]; omega, by rw [show (1 : Int32).toInt = 1 from by decide]; omega⟩]; rw [show (1 : Int32).toInt = 1 from by decide]
   have r4 := rng32 aft
   have r5 := rng32 tlx
   have d0 : kk.toInt < aft.toInt := Int32.lt_iff_toInt_lt.mp c0
   omega
  have q50 : 0 ≤ ((kk + (1 : Int32))).toInt := by
   have r1 := rng32 kk
   have k2 : (1 : Int32).toInt = 1 := by decide
   have e3 : ((kk + (1 : Int32))).toInt = kk.toInt + 1 := by
    rw [Jvm.Free.XT.add32 ⟨by rw [show (1 : Int32).toInt = 1 from by decide]; omega, by rw [show (1 : Int32).toInt = 1 from by decide]; omega⟩]; rw [show (1 : Int32).toInt = 1 from by decide]
   have r4 := rng32 aft
   have r5 := rng32 tlx
   have d0 : kk.toInt < aft.toInt := Int32.lt_iff_toInt_lt.mp c0
   omega
  have q51 : aft.toInt - ((kk + (1 : Int32))).toInt + 40 ≤ (k : Int) := by
   have r1 := rng32 kk
   have k2 : (1 : Int32).toInt = 1 := by decide
   have e3 : ((kk + (1 : Int32))).toInt = kk.toInt + 1 := by
    rw [Jvm.Free.XT.add32 ⟨by rw [show (1 : Int32).toInt = 1 from by decide]; omega, by rw [show (1 : Int32).toInt = 1 from by decide]; omega⟩]; rw [show (1 : Int32).toInt = 1 from by decide]
   have r4 := rng32 aft
   have d0 : kk.toInt < aft.toInt := Int32.lt_iff_toInt_lt.mp c0
   omega
  have kz48 : ((kk + (1 : Int32))).toNatClampNeg = kk.toNatClampNeg + 1 := by
   have r1 := rng32 kk
   have k2 : (1 : Int32).toInt = 1 := by decide
   have e3 : ((kk + (1 : Int32))).toInt = kk.toInt + 1 := by
    rw [Jvm.Free.XT.add32 ⟨by rw [show (1 : Int32).toInt = 1 from by decide]; omega, by rw [show (1 : Int32).toInt = 1 from by decide]; omega⟩]; rw [show (1 : Int32).toInt = 1 from by decide]
   have r4 := rng32 aft
   have r5 := rng32 tlx
   have d0 : kk.toInt < aft.toInt := Int32.lt_iff_toInt_lt.mp c0
   have n0 := o_nat (kk) (by omega)
   have n1 := o_nat ((kk + (1 : Int32))) (by omega)
   omega
  obtain ⟨S248, U248⟩ := o_Sstep Dd kn45 Sx Uk vv45.1 (fun i hi => by rw [d_f19]; dsimp only; rw [if_neg hi])
  exact ih (kk + (1 : Int32)) f19 _ _ X46 e46 N_19 hP47 q49 q50 q51 S248 (by rw [kz48]; exact U248)
 ·refine o_q T (o_f19 m 153 pp start ending (-1 : Int32) kp fst aft kk []) (fun _ k => XS.icmpYes X0.here hx rfl (pc0 := 114) (pc' := 153) rfl (hb hby o_d7_114) rfl (flt c0).2.1 (by decide) (by decide) k) ?_
  refine o_q T (o_f19 m 154 pp start ending (-1 : Int32) kp fst aft kk [(.ref pp)]) (fun _ k => XS.aloadN X0.here hx rfl (hb hby o_d7_153) rfl rfl k) ?_
  obtain ⟨T52, X52, e52, st52⟩ := getF X0 hx hZ hown (host := "") (Or.inl (o_m hw 25 rfl)) Via.refl e0 F1_runs (g := (o_f19 m 154 pp start ending (-1 : Int32) kp fst aft kk [(.ref pp)])) rfl rfl (hb hby o_d7_154)
  refine o_q T52 (o_f19 m 157 pp start ending (-1 : Int32) kp fst aft kk [(.ref ru)]) st52 ?_
  refine o_q T52 (o_f19 m 159 pp start ending (-1 : Int32) kp fst aft kk [(.int fst), (.ref ru)]) (fun _ k => XS.iload X52.here hx rfl (hb hby o_d7_157) rfl k) ?_
  refine o_q T52 (o_f19 m 161 pp start ending (-1 : Int32) kp fst aft kk [(.int aft), (.int fst), (.ref ru)]) (fun _ k => XS.iload X52.here hx rfl (hb hby o_d7_159) rfl k) ?_
  obtain ⟨v53, T53, L53, hQ53, X53, st53⟩ := o_callV X52 hx hZ e52 hown (o_m hw 117 rfl) (o_m hw 118 rfl) (o_m hw 120 rfl) (o_m hw 119 rfl) (by decide) (b := ru) Er1 (o_m hw 121 rfl) (o_m hw 18 rfl) (o_k17_7 l Z a0 hw ru fst aft hh Fn1) (g := (o_f19 m 161 pp start ending (-1 : Int32) kp fst aft kk [(.int aft), (.int fst), (.ref ru)])) rfl (by rw [hml]; rfl) rfl (argsL := [(.int fst), (.int aft)]) (rest := []) rfl (lenOf o_pd4 rfl) rfl (hb hby o_d7_161) (o_b rfl) (o_b rfl) (o_b rfl) (o_b rfl)
  obtain ⟨rfl, rfl, e53⟩ := hQ53
  rw [List.append_nil] at X53
  refine o_q T53 (o_f19 m 164 pp start ending (-1 : Int32) kp fst aft kk []) st53 ?_
  refine o_q T53 (o_f19 m 165 pp start ending (-1 : Int32) kp fst aft kk [(.ref pp)]) (fun _ k => XS.aloadN X53.here hx rfl (hb hby o_d7_164) rfl rfl k) ?_
  refine o_q T53 (o_f19 m 167 pp start ending (-1 : Int32) kp fst aft kk [(.int aft), (.ref pp)]) (fun _ k => XS.iload X53.here hx rfl (hb hby o_d7_165) rfl k) ?_
  have q54 : 1 ≤ tlx.toInt := by
   have r1 := rng32 tlx
   have r2 := rng32 kk
   have r3 := rng32 aft
   have d0 : ¬ (kk.toInt < aft.toInt) := mt Int32.lt_iff_toInt_lt.mpr c0
   omega
  have q55 : tlx.toInt ≤ L2.toInt := by
   have r1 := rng32 tlx
   have r2 := rng32 L2
   have r3 := rng32 kk
   have r4 := rng32 aft
   have d0 : ¬ (kk.toInt < aft.toInt) := mt Int32.lt_iff_toInt_lt.mpr c0
   omega
  have q56 : L2.toInt ≤ 32 := by
   have r1 := rng32 L2
   have r2 := rng32 kk
   have r3 := rng32 aft
   have d0 : ¬ (kk.toInt < aft.toInt) := mt Int32.lt_iff_toInt_lt.mpr c0
   omega
  have q57 : 0 ≤ aft.toInt := by
   have r1 := rng32 aft
   have r2 := rng32 kk
   have d0 : ¬ (kk.toInt < aft.toInt) := mt Int32.lt_iff_toInt_lt.mpr c0
   omega
  have hP58 : o_Pr Z n0 pp rc ru wa tmx frx tlx lax L2 chx gbx xsx fsc rsx hh := ⟨Ep1, Er1, Ew1, F1_cpus, F1_times, F1_free, F1_head, F1_tail, F1_lastAt, F1_runs, F1_firstKnown, F1_watcher, F1_watchedAs, F1_changes, F1_merged, F1_gaveBack, F1_recent, Fn1, At1, Af1, Ar1, nt1, wl1, gp1, gt1, gf1, gr1, gu1⟩
  obtain ⟨v59, T59, L59, hQ59, X59, st59⟩ := o_callP X53 hx hZ e53 hown (o_m hw 122 rfl) (o_m hw 123 rfl) (o_m hw 8 rfl) (o_m hw 124 rfl) (by decide) (a := pp) Ep1 (o_m hw 125 rfl) (o_m hw 9 rfl) (o_merge l Z a0 hw n0 pp rc ru wa tmx frx tlx lax L2 chx gbx xsx fsc rsx aft hh hP58 q54 q55 q56 q57) (g := (o_f19 m 167 pp start ending (-1 : Int32) kp fst aft kk [(.int aft), (.ref pp)])) rfl (by rw [hml]; rfl) rfl (argsL := [(.int aft)]) (rest := []) rfl (lenOf o_pd2 rfl) rfl (hb hby o_d7_167) (o_b rfl) (o_b rfl) (o_b rfl) (o_b rfl)
  obtain ⟨h59, e59⟩ : ∃ z, T59.heap = z := ⟨_, rfl⟩
  rw [e59] at hQ59
  obtain ⟨tl59, xs59, fs59, rfl, N59, hR59, ma59, mb59, mc59, md59, me59⟩ := hQ59
  have N_59 := Fr.app NL N59
  obtain ⟨Ep60, Er60, Ew60, F60_cpus, F60_times, F60_free, F60_head, F60_tail, F60_lastAt, F60_runs, F60_firstKnown, F60_watcher, F60_watchedAs, F60_changes, F60_merged, F60_gaveBack, F60_recent, Fn60, At60, Af60, Ar60, nt60, wl60, gp60, gt60, gf60, gr60, gu60⟩ := hR59
  have ne61 : o_ne pp ru := Ep60.ne Er60 (by decide)
  have ne62 : o_ne pp tmx := At60.neExa Ep60 (o_m hw 8 rfl)
  have ne63 : o_ne ru tmx := At60.neExa Er60 (o_m hw 17 rfl)
  have ne64 : o_ne pp frx := Af60.neExa Ep60 (o_m hw 8 rfl)
  have ne65 : o_ne ru frx := Af60.neExa Er60 (o_m hw 17 rfl)
  have ne66 : o_ne pp rc := Ar60.neExa Ep60 (o_m hw 8 rfl)
  have ne67 : o_ne ru rc := Ar60.neExa Er60 (o_m hw 17 rfl)
  have ne68 : o_ne wa pp := Nat.ne_of_lt (Nat.lt_of_lt_of_le wl60 gp60)
  have ne69 : o_ne wa tmx := Nat.ne_of_lt (Nat.lt_of_lt_of_le wl60 gt60)
  have ne70 : o_ne wa frx := Nat.ne_of_lt (Nat.lt_of_lt_of_le wl60 gf60)
  have ne71 : o_ne wa rc := Nat.ne_of_lt (Nat.lt_of_lt_of_le wl60 gr60)
  have ne72 : o_ne wa ru := Nat.ne_of_lt (Nat.lt_of_lt_of_le wl60 gu60)
  have ne73 : o_ne tmx frx := At60.ne Af60 (by intro q; cases q)
  have ne74 : o_ne frx rc := Af60.ne Ar60 (by intro q; cases q)
  refine o_q T59 (o_f19 m 170 pp start ending (-1 : Int32) kp fst aft kk []) st59 ?_
  refine o_q T59 (o_f19 m 171 pp start ending (-1 : Int32) kp fst aft kk [(.ref pp)]) (fun _ k => XS.aloadN X59.here hx rfl (hb hby o_d7_170) rfl rfl k) ?_
  refine o_q T59 (o_f19 m 173 pp start ending (-1 : Int32) kp fst aft kk [(.int fst), (.ref pp)]) (fun _ k => XS.iload X59.here hx rfl (hb hby o_d7_171) rfl k) ?_
  have q75 : 1 ≤ tl59.toInt := by
   have r1 := rng32 tl59
   have r2 := rng32 kk
   have r3 := rng32 aft
   have d0 : ¬ (kk.toInt < aft.toInt) := mt Int32.lt_iff_toInt_lt.mpr c0
   omega
  have q76 : tl59.toInt ≤ L2.toInt := by
   have r1 := rng32 tl59
   have r2 := rng32 L2
   have r3 := rng32 kk
   have r4 := rng32 aft
   have d0 : ¬ (kk.toInt < aft.toInt) := mt Int32.lt_iff_toInt_lt.mpr c0
   omega
  have q77 : L2.toInt ≤ 32 := by
   have r1 := rng32 L2
   have r2 := rng32 kk
   have r3 := rng32 aft
   have d0 : ¬ (kk.toInt < aft.toInt) := mt Int32.lt_iff_toInt_lt.mpr c0
   omega
  have q78 : 0 ≤ fst.toInt := by
   have r1 := rng32 fst
   have r2 := rng32 kk
   have r3 := rng32 aft
   have d0 : ¬ (kk.toInt < aft.toInt) := mt Int32.lt_iff_toInt_lt.mpr c0
   omega
  have hP79 : o_Pr Z n0 pp rc ru wa tmx frx tl59 lax L2 chx gbx xs59 fs59 rsx h59 := ⟨Ep60, Er60, Ew60, F60_cpus, F60_times, F60_free, F60_head, F60_tail, F60_lastAt, F60_runs, F60_firstKnown, F60_watcher, F60_watchedAs, F60_changes, F60_merged, F60_gaveBack, F60_recent, Fn60, At60, Af60, Ar60, nt60, wl60, gp60, gt60, gf60, gr60, gu60⟩
  obtain ⟨v80, T80, L80, hQ80, X80, st80⟩ := o_callP X59 hx hZ e59 hown (o_m hw 122 rfl) (o_m hw 123 rfl) (o_m hw 8 rfl) (o_m hw 124 rfl) (by decide) (a := pp) Ep60 (o_m hw 125 rfl) (o_m hw 9 rfl) (o_merge l Z a0 hw n0 pp rc ru wa tmx frx tl59 lax L2 chx gbx xs59 fs59 rsx fst h59 hP79 q75 q76 q77 q78) (g := (o_f19 m 173 pp start ending (-1 : Int32) kp fst aft kk [(.int fst), (.ref pp)])) rfl (by rw [hml]; rfl) rfl (argsL := [(.int fst)]) (rest := []) rfl (lenOf o_pd2 rfl) rfl (hb hby o_d7_173) (o_b rfl) (o_b rfl) (o_b rfl) (o_b rfl)
  obtain ⟨h80, e80⟩ : ∃ z, T80.heap = z := ⟨_, rfl⟩
  rw [e80] at hQ80
  obtain ⟨tl80, xs80, fs80, rfl, N80, hR80, ma80, mb80, mc80, md80, me80⟩ := hQ80
  have N_80 := Fr.app N_59 N80
  obtain ⟨Ep81, Er81, Ew81, F81_cpus, F81_times, F81_free, F81_head, F81_tail, F81_lastAt, F81_runs, F81_firstKnown, F81_watcher, F81_watchedAs, F81_changes, F81_merged, F81_gaveBack, F81_recent, Fn81, At81, Af81, Ar81, nt81, wl81, gp81, gt81, gf81, gr81, gu81⟩ := hR80
  have ne82 : o_ne pp ru := Ep81.ne Er81 (by decide)
  have ne83 : o_ne pp tmx := At81.neExa Ep81 (o_m hw 8 rfl)
  have ne84 : o_ne ru tmx := At81.neExa Er81 (o_m hw 17 rfl)
  have ne85 : o_ne pp frx := Af81.neExa Ep81 (o_m hw 8 rfl)
  have ne86 : o_ne ru frx := Af81.neExa Er81 (o_m hw 17 rfl)
  have ne87 : o_ne pp rc := Ar81.neExa Ep81 (o_m hw 8 rfl)
  have ne88 : o_ne ru rc := Ar81.neExa Er81 (o_m hw 17 rfl)
  have ne89 : o_ne wa pp := Nat.ne_of_lt (Nat.lt_of_lt_of_le wl81 gp81)
  have ne90 : o_ne wa tmx := Nat.ne_of_lt (Nat.lt_of_lt_of_le wl81 gt81)
  have ne91 : o_ne wa frx := Nat.ne_of_lt (Nat.lt_of_lt_of_le wl81 gf81)
  have ne92 : o_ne wa rc := Nat.ne_of_lt (Nat.lt_of_lt_of_le wl81 gr81)
  have ne93 : o_ne wa ru := Nat.ne_of_lt (Nat.lt_of_lt_of_le wl81 gu81)
  have ne94 : o_ne tmx frx := At81.ne Af81 (by intro q; cases q)
  have ne95 : o_ne frx rc := Af81.ne Ar81 (by intro q; cases q)
  refine o_q T80 (o_f19 m 176 pp start ending (-1 : Int32) kp fst aft kk []) st80 ?_
  have hP96 : o_Pr Z n0 pp rc ru wa tmx frx tl80 lax L2 chx gbx xs80 fs80 rsx h80 := ⟨Ep81, Er81, Ew81, F81_cpus, F81_times, F81_free, F81_head, F81_tail, F81_lastAt, F81_runs, F81_firstKnown, F81_watcher, F81_watchedAs, F81_changes, F81_merged, F81_gaveBack, F81_recent, Fn81, At81, Af81, Ar81, nt81, wl81, gp81, gt81, gf81, gr81, gu81⟩
  have n197 : 1 ≤ tlx.toNatClampNeg := by
   have r1 := rng32 tlx
   have r2 := rng32 kk
   have r3 := rng32 aft
   have d0 : ¬ (kk.toInt < aft.toInt) := mt Int32.lt_iff_toInt_lt.mpr c0
   have n0 := o_nat (tlx) (by omega)
   omega
  have n297 : 1 ≤ tl59.toNatClampNeg := by
   have r1 := rng32 tl59
   have r2 := rng32 kk
   have r3 := rng32 aft
   have d0 : ¬ (kk.toInt < aft.toInt) := mt Int32.lt_iff_toInt_lt.mpr c0
   have n0 := o_nat (tl59) (by omega)
   omega
  have q98 : 1 ≤ tl80.toInt := by
   have r1 := rng32 tl80
   have r2 := rng32 kk
   have r3 := rng32 aft
   have d0 : ¬ (kk.toInt < aft.toInt) := mt Int32.lt_iff_toInt_lt.mpr c0
   omega
  have q99 : tl80.toInt ≤ tlx.toInt := by
   have r1 := rng32 tl80
   have r2 := rng32 tlx
   have r3 := rng32 kk
   have r4 := rng32 aft
   have d0 : ¬ (kk.toInt < aft.toInt) := mt Int32.lt_iff_toInt_lt.mpr c0
   omega
  refine o_retV X80 hx hlk hret (hb hby o_d7_176) ?_ (o_b rfl) (o_b rfl)
  rw [e80]
  exact ⟨tl80, xs80, fs80, rfl, N_80, hP96, q98, q99, (md80.trans md59), (o_Smerge n297 (o_Smerge n197 Sx mc59 me59) mc80 me80)⟩
set_option maxRecDepth 65536 in
set_option maxHeartbeats 40000000 in
theorem o_addG_m1 (l : Launch) (Z : State) (a0 : Array Value) (hw : ∀ d ∈ tables_1, d.before a0 Z = true) (n0 : Nat) (pp rc ru wa tm fr : Addr) (tl la L : Int32) (ch gb : Int64) (xs : Nat → Int64) (fs : Nat → Int32) (rs : Nat → Int64) (L2 : Int32) (start ending : Int64) (cn : Nat) (lo hi lo1 hi1 : Int) (h0 : Heap) (hP : o_Pr Z n0 pp rc ru wa tm fr tl la L ch gb xs fs rs h0) (i1 : 1 ≤ tl.toInt) (i2 : tl.toInt ≤ L.toInt) (i3 : L2.toInt ≤ 32) (i4 : tl.toInt + 2 ≤ L2.toInt) (lz : L2 = ((2 : Int32) * L)) (lq : L2.toInt = 2 * L.toInt) (lh : (L / (2 : Int32)).toInt ≤ L.toInt) (lv : 4 ≤ L.toInt) (lw : L.toInt ≤ 16) (i5 : L.toInt < tl.toInt + 2) (hse : start < ending) (hc : ch.toInt = (cn : Int)) (hc2 : cn ≤ 100) (Dd : o_D lo hi lo1 hi1 (-1)) (Sg : o_S lo hi tl.toNatClampNeg xs fs) (hz : hi ≤ 15 → ¬ start < xs 0) :
  o_C l (⟨o_n1, "add", "(JJI)V"⟩ : MethodName) o_y12 10 none (o_R 5 2 64 100) Z h0 #[(.ref pp), (.long start), (.long ending), (.int (-1 : Int32))] (fun v h Ls => ∃ (tm' fr' : Addr) (tl' la' : Int32) (xs' : Nat → Int64) (fs' : Nat → Int32), v = none ∧ Fr n0 Ls ∧ o_Pr Z n0 pp rc ru wa tm' fr' tl' la' L2 (ch + (1 : Int64)) gb xs' fs' (o_put rs (cn + 1) start ending (0 : Int64)) h ∧ 1 ≤ tl'.toInt ∧ tl'.toInt ≤ tl.toInt + 2 ∧ xs' 0 = xs 0 ∧ o_S lo1 hi1 tl'.toNatClampNeg xs' fs') := by
 refine o_body o_pn7 ?_
 intro p e s m below meth c s₁ hx hby hml hZ hown hnm hret hlk X0 e0
 refine o_cast (f' := (o_f20 m 0 pp start ending (-1 : Int32) [])) (by first | (simp [entryFrame, mkF, argsToLocals, Value.category, maxLocals]; done) | rfl) ?_
 obtain ⟨Ep1, Er1, Ew1, F1_cpus, F1_times, F1_free, F1_head, F1_tail, F1_lastAt, F1_runs, F1_firstKnown, F1_watcher, F1_watchedAs, F1_changes, F1_merged, F1_gaveBack, F1_recent, Fn1, At1, Af1, Ar1, nt1, wl1, gp1, gt1, gf1, gr1, gu1⟩ := hP
 have ne2 : o_ne pp ru := Ep1.ne Er1 (by decide)
 have ne3 : o_ne pp tm := At1.neExa Ep1 (o_m hw 8 rfl)
 have ne4 : o_ne ru tm := At1.neExa Er1 (o_m hw 17 rfl)
 have ne5 : o_ne pp fr := Af1.neExa Ep1 (o_m hw 8 rfl)
 have ne6 : o_ne ru fr := Af1.neExa Er1 (o_m hw 17 rfl)
 have ne7 : o_ne pp rc := Ar1.neExa Ep1 (o_m hw 8 rfl)
 have ne8 : o_ne ru rc := Ar1.neExa Er1 (o_m hw 17 rfl)
 have ne9 : o_ne wa pp := Nat.ne_of_lt (Nat.lt_of_lt_of_le wl1 gp1)
 have ne10 : o_ne wa tm := Nat.ne_of_lt (Nat.lt_of_lt_of_le wl1 gt1)
 have ne11 : o_ne wa fr := Nat.ne_of_lt (Nat.lt_of_lt_of_le wl1 gf1)
 have ne12 : o_ne wa rc := Nat.ne_of_lt (Nat.lt_of_lt_of_le wl1 gr1)
 have ne13 : o_ne wa ru := Nat.ne_of_lt (Nat.lt_of_lt_of_le wl1 gu1)
 have ne14 : o_ne tm fr := At1.ne Af1 (by intro q; cases q)
 have ne15 : o_ne fr rc := Af1.ne Ar1 (by intro q; cases q)
 refine o_q s₁ (o_f20 m 1 pp start ending (-1 : Int32) [(.long start)]) (fun _ k => XS.lloadN X0.here hx rfl (hb hby o_d7_0) rfl k) ?_
 refine o_q s₁ (o_f20 m 2 pp start ending (-1 : Int32) [(.long ending), (.long start)]) (fun _ k => XS.lloadN X0.here hx rfl (hb hby o_d7_1) rfl k) ?_
 refine o_q s₁ (o_f20 m 3 pp start ending (-1 : Int32) [(.int (lcmpW start ending))]) (fun _ k => XS.lcmp X0.here hx rfl (hb hby o_d7_2) rfl k) ?_
 refine o_q s₁ (o_f20 m 7 pp start ending (-1 : Int32) []) (fun _ k => XS.ifYes X0.here hx rfl (pc0 := 3) (pc' := 7) rfl (hb hby o_d7_3) rfl ((if0 _ _).trans (tlt ((lw_lt _ _).mpr hse)).1) (by decide) (by decide) k) ?_
 refine o_q s₁ (o_f20 m 8 pp start ending (-1 : Int32) [(.ref pp)]) (fun _ k => XS.aloadN X0.here hx rfl (hb hby o_d7_7) rfl rfl k) ?_
 have hP16 : o_Pr Z n0 pp rc ru wa tm fr tl la L ch gb xs fs rs h0 := ⟨Ep1, Er1, Ew1, F1_cpus, F1_times, F1_free, F1_head, F1_tail, F1_lastAt, F1_runs, F1_firstKnown, F1_watcher, F1_watchedAs, F1_changes, F1_merged, F1_gaveBack, F1_recent, Fn1, At1, Af1, Ar1, nt1, wl1, gp1, gt1, gf1, gr1, gu1⟩
 obtain ⟨v17, T17, L17, hQ17, X17, st17⟩ := o_callP X0 hx hZ e0 hown (o_m hw 59 rfl) (o_m hw 60 rfl) (o_m hw 8 rfl) (o_m hw 61 rfl) (by decide) (a := pp) Ep1 (o_m hw 62 rfl) (o_m hw 9 rfl) (o_counts l Z a0 hw n0 pp rc ru wa tm fr tl la L ch gb xs fs rs  h0 hP16 ) (g := (o_f20 m 8 pp start ending (-1 : Int32) [(.ref pp)])) rfl (by rw [hml]; rfl) rfl (argsL := []) (rest := []) rfl (lenOf o_pd0 rfl) rfl (hb hby o_d7_8) (o_b rfl) (o_b rfl) (o_b rfl) (o_b rfl)
 obtain ⟨h17, e17⟩ : ∃ z, T17.heap = z := ⟨_, rfl⟩
 rw [e17] at hQ17
 obtain ⟨rfl, N17, hR17⟩ := hQ17
 have N_17 := Fr.app (Fr.nil _) N17
 obtain ⟨Ep18, Er18, Ew18, F18_cpus, F18_times, F18_free, F18_head, F18_tail, F18_lastAt, F18_runs, F18_firstKnown, F18_watcher, F18_watchedAs, F18_changes, F18_merged, F18_gaveBack, F18_recent, Fn18, At18, Af18, Ar18, nt18, wl18, gp18, gt18, gf18, gr18, gu18⟩ := hR17
 have ne19 : o_ne pp ru := Ep18.ne Er18 (by decide)
 have ne20 : o_ne pp tm := At18.neExa Ep18 (o_m hw 8 rfl)
 have ne21 : o_ne ru tm := At18.neExa Er18 (o_m hw 17 rfl)
 have ne22 : o_ne pp fr := Af18.neExa Ep18 (o_m hw 8 rfl)
 have ne23 : o_ne ru fr := Af18.neExa Er18 (o_m hw 17 rfl)
 have ne24 : o_ne pp rc := Ar18.neExa Ep18 (o_m hw 8 rfl)
 have ne25 : o_ne ru rc := Ar18.neExa Er18 (o_m hw 17 rfl)
 have ne26 : o_ne wa pp := Nat.ne_of_lt (Nat.lt_of_lt_of_le wl18 gp18)
 have ne27 : o_ne wa tm := Nat.ne_of_lt (Nat.lt_of_lt_of_le wl18 gt18)
 have ne28 : o_ne wa fr := Nat.ne_of_lt (Nat.lt_of_lt_of_le wl18 gf18)
 have ne29 : o_ne wa rc := Nat.ne_of_lt (Nat.lt_of_lt_of_le wl18 gr18)
 have ne30 : o_ne wa ru := Nat.ne_of_lt (Nat.lt_of_lt_of_le wl18 gu18)
 have ne31 : o_ne tm fr := At18.ne Af18 (by intro q; cases q)
 have ne32 : o_ne fr rc := Af18.ne Ar18 (by intro q; cases q)
 refine o_q T17 (o_f20 m 11 pp start ending (-1 : Int32) []) st17 ?_
 refine o_q T17 (o_f20 m 12 pp start ending (-1 : Int32) [(.int (3 : Int32))]) (fun _ k => XS.iconst X17.here hx rfl (hb hby o_d7_11) k) ?_
 refine o_q T17 (o_f20 m 13 pp start ending (-1 : Int32) [(.ref pp), (.int (3 : Int32))]) (fun _ k => XS.aloadN X17.here hx rfl (hb hby o_d7_12) rfl rfl k) ?_
 refine o_q T17 (o_f20 m 14 pp start ending (-1 : Int32) [(.ref pp), (.ref pp), (.int (3 : Int32))]) (fun _ k => XS.dup X17.here hx rfl (hb hby o_d7_13) rfl rfl k) ?_
 obtain ⟨T33, X33, e33, st33⟩ := getF X17 hx hZ hown (host := "") (Or.inl (o_m hw 77 rfl)) Via.refl e17 F18_changes (g := (o_f20 m 14 pp start ending (-1 : Int32) [(.ref pp), (.ref pp), (.int (3 : Int32))])) rfl rfl (hb hby o_d7_14)
 refine o_q T33 (o_f20 m 17 pp start ending (-1 : Int32) [(.long ch), (.ref pp), (.int (3 : Int32))]) st33 ?_
 refine o_q T33 (o_f20 m 18 pp start ending (-1 : Int32) [(.long (1 : Int64)), (.long ch), (.ref pp), (.int (3 : Int32))]) (fun _ k => XS.lconst X33.here hx rfl (hb hby o_d7_17) k) ?_
 refine o_q T33 (o_f20 m 19 pp start ending (-1 : Int32) [(.long (ch + (1 : Int64))), (.ref pp), (.int (3 : Int32))]) (fun _ k => XS.ladd X33.here hx rfl (hb hby o_d7_18) rfl k) ?_
 refine o_q T33 (o_f20 m 20 pp start ending (-1 : Int32) [(.long (ch + (1 : Int64))), (.ref pp), (.long (ch + (1 : Int64))), (.int (3 : Int32))]) (fun _ k => by jvm_step X33.here [X33.here.top, hx, (hb hby o_d7_19), Value.category]; exact k) ?_
 obtain ⟨T34, h34, X34, e34, W34, st34⟩ := putF X33 hx hZ hown (host := "") (Or.inl (o_m hw 77 rfl)) Via.refl e33 F18_changes Ep18 (Or.inl (o_m hw 78 rfl)) (o_m hw 8 rfl) (ty := .long) (by decide) rfl rfl (g := (o_f20 m 20 pp start ending (-1 : Int32) [(.long (ch + (1 : Int64))), (.ref pp), (.long (ch + (1 : Int64))), (.int (3 : Int32))])) rfl rfl (hb hby o_d7_20)
 have Fw34 := F18_changes.same W34
 have N_34 := Fr.snoc X34 N_17 gp18
 have Y35 := Ep18.wr W34
 have Y36 := Er18.wr W34
 have Y37 := Ew18.wr W34
 have Y38 := F18_cpus.other W34 (o_sn (Or.inr (o_m hw 41 rfl)) (Or.inl (o_m hw 78 rfl)))
 have Y39 := F18_times.other W34 (o_sn (Or.inl (o_m hw 44 rfl)) (Or.inl (o_m hw 78 rfl)))
 have Y40 := F18_free.other W34 (o_sn (Or.inl (o_m hw 47 rfl)) (Or.inl (o_m hw 78 rfl)))
 have Y41 := F18_head.other W34 (o_sn (Or.inl (o_m hw 93 rfl)) (Or.inl (o_m hw 78 rfl)))
 have Y42 := F18_tail.other W34 (o_sn (Or.inl (o_m hw 49 rfl)) (Or.inl (o_m hw 78 rfl)))
 have Y43 := F18_lastAt.other W34 (o_sn (Or.inl (o_m hw 106 rfl)) (Or.inl (o_m hw 78 rfl)))
 have Y44 := F18_runs.other W34 (o_sn (Or.inr (o_m hw 26 rfl)) (Or.inl (o_m hw 78 rfl)))
 have Y45 := F18_firstKnown.other W34 (o_sn (Or.inl (o_m hw 64 rfl)) (Or.inl (o_m hw 78 rfl)))
 have Y46 := F18_watcher.other W34 (o_sn (Or.inl (o_m hw 39 rfl)) (Or.inl (o_m hw 78 rfl)))
 have Y47 := F18_watchedAs.other W34 (o_sn (Or.inl (o_m hw 66 rfl)) (Or.inl (o_m hw 78 rfl)))
 have Y49 := F18_merged.other W34 (o_sn (Or.inl (o_m hw 132 rfl)) (Or.inl (o_m hw 78 rfl)))
 have Y50 := F18_gaveBack.other W34 (o_sn (Or.inl (o_m hw 166 rfl)) (Or.inl (o_m hw 78 rfl)))
 have Y51 := F18_recent.other W34 (o_sn (Or.inr (o_m hw 35 rfl)) (Or.inl (o_m hw 78 rfl)))
 have Y52 := Fn18.other W34 (Or.inl (Ne.symm ne19))
 have Y53 := At18.other W34 (Ne.symm ne20)
 have Y54 := Af18.other W34 (Ne.symm ne22)
 have Y55 := Ar18.other W34 (Ne.symm ne24)
 refine o_q T34 (o_f20 m 23 pp start ending (-1 : Int32) [(.long (ch + (1 : Int64))), (.int (3 : Int32))]) st34 ?_
 refine o_q T34 (o_f20 m 26 pp start ending (-1 : Int32) [(.long (8 : Int64)), (.long (ch + (1 : Int64))), (.int (3 : Int32))]) (fun _ k => X34.ldc2Long hx hown (mvT hZ (o_m hw 79 rfl)) (g := (o_f20 m 23 pp start ending (-1 : Int32) [(.long (ch + (1 : Int64))), (.int (3 : Int32))])) rfl (hb hby o_d7_23) _ k) ?_
 refine o_q T34 (o_f20 m 27 pp start ending (-1 : Int32) [(.long ((ch + (1 : Int64)) - ((ch + (1 : Int64)) / (8 : Int64)) * (8 : Int64))), (.int (3 : Int32))]) (fun _ k => XS.lrem X34.here hx rfl (hb hby o_d7_26) rfl (by decide) k) ?_
 refine o_q T34 (o_f20 m 28 pp start ending (-1 : Int32) [(.int (((ch + (1 : Int64)) - ((ch + (1 : Int64)) / (8 : Int64)) * (8 : Int64))).toInt32), (.int (3 : Int32))]) (fun _ k => XS.l2i X34.here hx rfl (hb hby o_d7_27) rfl k) ?_
 refine o_q T34 (o_f20 m 29 pp start ending (-1 : Int32) [(.int ((3 : Int32) * (((ch + (1 : Int64)) - ((ch + (1 : Int64)) / (8 : Int64)) * (8 : Int64))).toInt32))]) (fun _ k => XS.imul X34.here hx rfl (hb hby o_d7_28) rfl k) ?_
 obtain ⟨kp, h_kp⟩ : ∃ z, z = ((3 : Int32) * (((ch + (1 : Int64)) - ((ch + (1 : Int64)) / (8 : Int64)) * (8 : Int64))).toInt32) := ⟨_, rfl⟩
 rw [← h_kp]
 obtain ⟨q8, hq8⟩ : ∃ z, z = (cn + 1) % 8 := ⟨_, rfl⟩
 have hk8 : q8 < 8 := hq8 ▸ Nat.mod_lt _ (by decide)
 have hkp : kp.toInt = 3 * (q8 : Int) := by rw [h_kp, o_kept ch cn hc hc2, ← hq8]; rfl
 refine o_q T34 (o_f21 m 31 pp start ending (-1 : Int32) kp []) (fun _ k => XS.istore X34.here hx rfl (hb hby o_d7_29) rfl (l' := (o_t21 pp start ending (-1 : Int32) kp)) rfl k) ?_
 refine o_q T34 (o_f21 m 32 pp start ending (-1 : Int32) kp [(.ref pp)]) (fun _ k => XS.aloadN X34.here hx rfl (hb hby o_d7_31) rfl rfl k) ?_
 obtain ⟨T56, X56, e56, st56⟩ := getF X34 hx hZ hown (host := "") (Or.inl (o_m hw 34 rfl)) Via.refl e34 Y51 (g := (o_f21 m 32 pp start ending (-1 : Int32) kp [(.ref pp)])) rfl rfl (hb hby o_d7_32)
 refine o_q T56 (o_f21 m 35 pp start ending (-1 : Int32) kp [(.ref rc)]) st56 ?_
 refine o_q T56 (o_f21 m 37 pp start ending (-1 : Int32) kp [(.int kp), (.ref rc)]) (fun _ k => XS.iload X56.here hx rfl (hb hby o_d7_35) rfl k) ?_
 refine o_q T56 (o_f21 m 38 pp start ending (-1 : Int32) kp [(.long start), (.int kp), (.ref rc)]) (fun _ k => XS.lloadN X56.here hx rfl (hb hby o_d7_37) rfl k) ?_
 have hin57 : ¬ (kp < (0 : Int32)) ∧ kp < (24 : Int32) := by
  have r1 := rng32 kp
  have k2 : (24 : Int32).toInt = 24 := by decide
  have k3 : (0 : Int32).toInt = 0 := by decide
  rw [Int32.lt_iff_toInt_lt, Int32.lt_iff_toInt_lt]
  omega
 obtain ⟨T58, h58, X58, e58, W58, A58, st58⟩ := o_stJ X56 hx hZ e56 Y55 hin57 (g := (o_f21 m 38 pp start ending (-1 : Int32) kp [(.long start), (.int kp), (.ref rc)])) rfl rfl (hb hby o_d7_38)
 obtain ⟨f58, d_f58⟩ : ∃ z : Nat → Int64, z = (fun i => if i = kp.toNatClampNeg then start else rs i) := ⟨_, rfl⟩
 rw [← d_f58] at A58
 have N_58 := Fr.snoc X58 N_34 gr18
 have Y59 := Y35.wr W58
 have Y60 := Y36.wr W58
 have Y61 := Y37.wr W58
 have Y62 := Y38.other W58 (Or.inl ne24)
 have Y63 := Y39.other W58 (Or.inl ne24)
 have Y64 := Y40.other W58 (Or.inl ne24)
 have Y65 := Y41.other W58 (Or.inl ne24)
 have Y66 := Y42.other W58 (Or.inl ne24)
 have Y67 := Y43.other W58 (Or.inl ne24)
 have Y68 := Y44.other W58 (Or.inl ne24)
 have Y69 := Y45.other W58 (Or.inl ne24)
 have Y70 := Y46.other W58 (Or.inl ne24)
 have Y71 := Y47.other W58 (Or.inl ne24)
 have Y72 := Fw34.other W58 (Or.inl ne24)
 have Y73 := Y49.other W58 (Or.inl ne24)
 have Y74 := Y50.other W58 (Or.inl ne24)
 have Y75 := Y51.other W58 (Or.inl ne24)
 have Y76 := Y52.other W58 (Or.inl ne25)
 have Y77 := Y53.other W58 nt18
 have Y78 := Y54.other W58 ne32
 refine o_q T58 (o_f21 m 39 pp start ending (-1 : Int32) kp []) st58 ?_
 refine o_q T58 (o_f21 m 40 pp start ending (-1 : Int32) kp [(.ref pp)]) (fun _ k => XS.aloadN X58.here hx rfl (hb hby o_d7_39) rfl rfl k) ?_
 obtain ⟨T80, X80, e80, st80⟩ := getF X58 hx hZ hown (host := "") (Or.inl (o_m hw 34 rfl)) Via.refl e58 Y75 (g := (o_f21 m 40 pp start ending (-1 : Int32) kp [(.ref pp)])) rfl rfl (hb hby o_d7_40)
 refine o_q T80 (o_f21 m 43 pp start ending (-1 : Int32) kp [(.ref rc)]) st80 ?_
 refine o_q T80 (o_f21 m 45 pp start ending (-1 : Int32) kp [(.int kp), (.ref rc)]) (fun _ k => XS.iload X80.here hx rfl (hb hby o_d7_43) rfl k) ?_
 refine o_q T80 (o_f21 m 46 pp start ending (-1 : Int32) kp [(.int (1 : Int32)), (.int kp), (.ref rc)]) (fun _ k => XS.iconst X80.here hx rfl (hb hby o_d7_45) k) ?_
 refine o_q T80 (o_f21 m 47 pp start ending (-1 : Int32) kp [(.int (kp + (1 : Int32))), (.ref rc)]) (fun _ k => XS.iadd X80.here hx rfl (hb hby o_d7_46) rfl k) ?_
 refine o_q T80 (o_f21 m 48 pp start ending (-1 : Int32) kp [(.long ending), (.int (kp + (1 : Int32))), (.ref rc)]) (fun _ k => XS.lloadN X80.here hx rfl (hb hby o_d7_47) rfl k) ?_
 have hin81 : ¬ ((kp + (1 : Int32)) < (0 : Int32)) ∧ (kp + (1 : Int32)) < (24 : Int32) := by
  have r1 := rng32 kp
  have k2 : (1 : Int32).toInt = 1 := by decide
  have e3 : ((kp + (1 : Int32))).toInt = kp.toInt + 1 := by
   rw [Jvm.Free.XT.add32 ⟨by rw [show (1 : Int32).toInt = 1 from by decide]; omega, by rw [show (1 : Int32).toInt = 1 from by decide]; omega⟩]; rw [show (1 : Int32).toInt = 1 from by decide]
  have k4 : (24 : Int32).toInt = 24 := by decide
  have k5 : (0 : Int32).toInt = 0 := by decide
  rw [Int32.lt_iff_toInt_lt, Int32.lt_iff_toInt_lt]
  omega
 obtain ⟨T82, h82, X82, e82, W82, A82, st82⟩ := o_stJ X80 hx hZ e80 A58 hin81 (g := (o_f21 m 48 pp start ending (-1 : Int32) kp [(.long ending), (.int (kp + (1 : Int32))), (.ref rc)])) rfl rfl (hb hby o_d7_48)
 obtain ⟨f82, d_f82⟩ : ∃ z : Nat → Int64, z = (fun i => if i = ((kp + (1 : Int32))).toNatClampNeg then ending else f58 i) := ⟨_, rfl⟩
 rw [← d_f82] at A82
 have N_82 := Fr.snoc X82 N_58 gr18
 have Y83 := Y59.wr W82
 have Y84 := Y60.wr W82
 have Y85 := Y61.wr W82
 have Y86 := Y62.other W82 (Or.inl ne24)
 have Y87 := Y63.other W82 (Or.inl ne24)
 have Y88 := Y64.other W82 (Or.inl ne24)
 have Y89 := Y65.other W82 (Or.inl ne24)
 have Y90 := Y66.other W82 (Or.inl ne24)
 have Y91 := Y67.other W82 (Or.inl ne24)
 have Y92 := Y68.other W82 (Or.inl ne24)
 have Y93 := Y69.other W82 (Or.inl ne24)
 have Y94 := Y70.other W82 (Or.inl ne24)
 have Y95 := Y71.other W82 (Or.inl ne24)
 have Y96 := Y72.other W82 (Or.inl ne24)
 have Y97 := Y73.other W82 (Or.inl ne24)
 have Y98 := Y74.other W82 (Or.inl ne24)
 have Y99 := Y75.other W82 (Or.inl ne24)
 have Y100 := Y76.other W82 (Or.inl ne25)
 have Y101 := Y77.other W82 nt18
 have Y102 := Y78.other W82 ne32
 refine o_q T82 (o_f21 m 49 pp start ending (-1 : Int32) kp []) st82 ?_
 refine o_q T82 (o_f21 m 50 pp start ending (-1 : Int32) kp [(.ref pp)]) (fun _ k => XS.aloadN X82.here hx rfl (hb hby o_d7_49) rfl rfl k) ?_
 obtain ⟨T104, X104, e104, st104⟩ := getF X82 hx hZ hown (host := "") (Or.inl (o_m hw 34 rfl)) Via.refl e82 Y99 (g := (o_f21 m 50 pp start ending (-1 : Int32) kp [(.ref pp)])) rfl rfl (hb hby o_d7_50)
 refine o_q T104 (o_f21 m 53 pp start ending (-1 : Int32) kp [(.ref rc)]) st104 ?_
 refine o_q T104 (o_f21 m 55 pp start ending (-1 : Int32) kp [(.int kp), (.ref rc)]) (fun _ k => XS.iload X104.here hx rfl (hb hby o_d7_53) rfl k) ?_
 refine o_q T104 (o_f21 m 56 pp start ending (-1 : Int32) kp [(.int (2 : Int32)), (.int kp), (.ref rc)]) (fun _ k => XS.iconst X104.here hx rfl (hb hby o_d7_55) k) ?_
 refine o_q T104 (o_f21 m 57 pp start ending (-1 : Int32) kp [(.int (kp + (2 : Int32))), (.ref rc)]) (fun _ k => XS.iadd X104.here hx rfl (hb hby o_d7_56) rfl k) ?_
 refine o_q T104 (o_f21 m 59 pp start ending (-1 : Int32) kp [(.int (-1 : Int32)), (.int (kp + (2 : Int32))), (.ref rc)]) (fun _ k => XS.iload X104.here hx rfl (hb hby o_d7_57) rfl k) ?_
 refine o_q T104 (o_f21 m 66 pp start ending (-1 : Int32) kp [(.int (kp + (2 : Int32))), (.ref rc)]) (fun _ k => XS.ifYes X104.here hx rfl (pc0 := 59) (pc' := 66) rfl (hb hby o_d7_59) rfl ((if0 _ _).trans (flt (by decide : ¬ ((0 : Int32) < (-1 : Int32)))).2.2.2) (by decide) (by decide) k) ?_
 refine o_q T104 (o_f21 m 67 pp start ending (-1 : Int32) kp [(.long (0 : Int64)), (.int (kp + (2 : Int32))), (.ref rc)]) (fun _ k => XS.lconst X104.here hx rfl (hb hby o_d7_66) k) ?_
 have hin105 : ¬ ((kp + (2 : Int32)) < (0 : Int32)) ∧ (kp + (2 : Int32)) < (24 : Int32) := by
  have r1 := rng32 kp
  have k2 : (2 : Int32).toInt = 2 := by decide
  have e3 : ((kp + (2 : Int32))).toInt = kp.toInt + 2 := by
   rw [Jvm.Free.XT.add32 ⟨by rw [show (2 : Int32).toInt = 2 from by decide]; omega, by rw [show (2 : Int32).toInt = 2 from by decide]; omega⟩]; rw [show (2 : Int32).toInt = 2 from by decide]
  have k4 : (24 : Int32).toInt = 24 := by decide
  have k5 : (0 : Int32).toInt = 0 := by decide
  rw [Int32.lt_iff_toInt_lt, Int32.lt_iff_toInt_lt]
  omega
 obtain ⟨T106, h106, X106, e106, W106, A106, st106⟩ := o_stJ X104 hx hZ e104 A82 hin105 (g := (o_f21 m 67 pp start ending (-1 : Int32) kp [(.long (0 : Int64)), (.int (kp + (2 : Int32))), (.ref rc)])) rfl rfl (hb hby o_d7_67)
 obtain ⟨f106, d_f106⟩ : ∃ z : Nat → Int64, z = (fun i => if i = ((kp + (2 : Int32))).toNatClampNeg then (0 : Int64) else f82 i) := ⟨_, rfl⟩
 rw [← d_f106] at A106
 have N_106 := Fr.snoc X106 N_82 gr18
 have Y107 := Y83.wr W106
 have Y108 := Y84.wr W106
 have Y109 := Y85.wr W106
 have Y110 := Y86.other W106 (Or.inl ne24)
 have Y111 := Y87.other W106 (Or.inl ne24)
 have Y112 := Y88.other W106 (Or.inl ne24)
 have Y113 := Y89.other W106 (Or.inl ne24)
 have Y114 := Y90.other W106 (Or.inl ne24)
 have Y115 := Y91.other W106 (Or.inl ne24)
 have Y116 := Y92.other W106 (Or.inl ne24)
 have Y117 := Y93.other W106 (Or.inl ne24)
 have Y118 := Y94.other W106 (Or.inl ne24)
 have Y119 := Y95.other W106 (Or.inl ne24)
 have Y120 := Y96.other W106 (Or.inl ne24)
 have Y121 := Y97.other W106 (Or.inl ne24)
 have Y122 := Y98.other W106 (Or.inl ne24)
 have Y123 := Y99.other W106 (Or.inl ne24)
 have Y124 := Y100.other W106 (Or.inl ne25)
 have Y125 := Y101.other W106 nt18
 have Y126 := Y102.other W106 ne32
 refine o_q T106 (o_f21 m 68 pp start ending (-1 : Int32) kp []) st106 ?_
 have ja : kp.toNatClampNeg = 3 * q8 := by
  have r1 := rng32 kp
  have n0 := o_nat (kp) (by omega)
  omega
 have jb : ((kp + (1 : Int32))).toNatClampNeg = 3 * q8 + 1 := by
  have r1 := rng32 kp
  have k2 : (1 : Int32).toInt = 1 := by decide
  have e3 : ((kp + (1 : Int32))).toInt = kp.toInt + 1 := by
   rw [Jvm.Free.XT.add32 ⟨by rw [show (1 : Int32).toInt = 1 from by decide]; omega, by rw [show (1 : Int32).toInt = 1 from by decide]; omega⟩]; rw [show (1 : Int32).toInt = 1 from by decide]
  have n0 := o_nat ((kp + (1 : Int32))) (by omega)
  omega
 have jc : ((kp + (2 : Int32))).toNatClampNeg = 3 * q8 + 2 := by
  have r1 := rng32 kp
  have k2 : (2 : Int32).toInt = 2 := by decide
  have e3 : ((kp + (2 : Int32))).toInt = kp.toInt + 2 := by
   rw [Jvm.Free.XT.add32 ⟨by rw [show (2 : Int32).toInt = 2 from by decide]; omega, by rw [show (2 : Int32).toInt = 2 from by decide]; omega⟩]; rw [show (2 : Int32).toInt = 2 from by decide]
  have n0 := o_nat ((kp + (2 : Int32))) (by omega)
  omega
 have RC : o_LA Z h106 rc (24 : Int32) (o_put rs (cn + 1) start ending (0 : Int64)) := A106.congr fun i _ => by
  rw [d_f106, d_f82, d_f58]
  dsimp only [o_put]
  rw [ja, jb, jc, hq8]
 refine o_q T106 (o_f21 m 70 pp start ending (-1 : Int32) kp [(.int (-1 : Int32))]) (fun _ k => XS.iload X106.here hx rfl (hb hby o_d7_68) rfl k) ?_
 refine o_q T106 (o_f21 m 81 pp start ending (-1 : Int32) kp []) (fun _ k => XS.ifYes X106.here hx rfl (pc0 := 70) (pc' := 81) rfl (hb hby o_d7_70) rfl ((if0 _ _).trans (flt (by decide : ¬ ((0 : Int32) < (-1 : Int32)))).2.2.2) (by decide) (by decide) k) ?_
 refine o_q T106 (o_f21 m 82 pp start ending (-1 : Int32) kp [(.ref pp)]) (fun _ k => XS.aloadN X106.here hx rfl (hb hby o_d7_81) rfl rfl k) ?_
 refine o_q T106 (o_f21 m 83 pp start ending (-1 : Int32) kp [(.ref pp), (.ref pp)]) (fun _ k => XS.aloadN X106.here hx rfl (hb hby o_d7_82) rfl rfl k) ?_
 obtain ⟨T128, X128, e128, st128⟩ := getF X106 hx hZ hown (host := "") (Or.inl (o_m hw 48 rfl)) Via.refl e106 Y114 (g := (o_f21 m 83 pp start ending (-1 : Int32) kp [(.ref pp), (.ref pp)])) rfl rfl (hb hby o_d7_83)
 refine o_q T128 (o_f21 m 86 pp start ending (-1 : Int32) kp [(.int tl), (.ref pp)]) st128 ?_
 refine o_q T128 (o_f21 m 87 pp start ending (-1 : Int32) kp [(.int (2 : Int32)), (.int tl), (.ref pp)]) (fun _ k => XS.iconst X128.here hx rfl (hb hby o_d7_86) k) ?_
 refine o_q T128 (o_f21 m 88 pp start ending (-1 : Int32) kp [(.int (tl + (2 : Int32))), (.ref pp)]) (fun _ k => XS.iadd X128.here hx rfl (hb hby o_d7_87) rfl k) ?_
 have hP129 : o_Pr Z n0 pp rc ru wa tm fr tl la L (ch + (1 : Int64)) gb xs fs (o_put rs (cn + 1) start ending (0 : Int64)) h106 := ⟨Y107, Y108, Y109, Y110, Y111, Y112, Y113, Y114, Y115, Y116, Y117, Y118, Y119, Y120, Y121, Y122, Y123, Y124, Y125, Y126, RC, nt18, wl18, gp18, gt18, gf18, gr18, gu18⟩
 have q130 : 1 ≤ tl.toInt := by
  have r1 := rng32 tl
  omega
 have q131 : tl.toInt ≤ L.toInt := by
  have r1 := rng32 tl
  omega
 have q132 : L.toInt < ((tl + (2 : Int32))).toInt := by
  have r1 := rng32 tl
  have k2 : (2 : Int32).toInt = 2 := by decide
  have e3 : ((tl + (2 : Int32))).toInt = tl.toInt + 2 := by
   rw [Jvm.Free.XT.add32 ⟨by rw [show (2 : Int32).toInt = 2 from by decide]; omega, by rw [show (2 : Int32).toInt = 2 from by decide]; omega⟩]; rw [show (2 : Int32).toInt = 2 from by decide]
  omega
 have q133 : ((tl + (2 : Int32))).toInt = tl.toInt + 2 := by
  have r1 := rng32 tl
  have k2 : (2 : Int32).toInt = 2 := by decide
  have e3 : ((tl + (2 : Int32))).toInt = tl.toInt + 2 := by
   rw [Jvm.Free.XT.add32 ⟨by rw [show (2 : Int32).toInt = 2 from by decide]; omega, by rw [show (2 : Int32).toInt = 2 from by decide]; omega⟩]; rw [show (2 : Int32).toInt = 2 from by decide]
  omega
 obtain ⟨v134, T134, L134, hQ134, X134, st134⟩ := o_callP X128 hx hZ e128 hown (o_m hw 80 rfl) (o_m hw 81 rfl) (o_m hw 8 rfl) (o_m hw 82 rfl) (by decide) (a := pp) Y107 (o_m hw 83 rfl) (o_m hw 9 rfl) (o_room1 l Z a0 hw n0 pp rc ru wa tm fr tl la L (ch + (1 : Int64)) gb xs fs (o_put rs (cn + 1) start ending (0 : Int64)) L2 (tl + (2 : Int32)) h106 hP129 lz lq lh lv lw q130 q131 q132 q133) (g := (o_f21 m 88 pp start ending (-1 : Int32) kp [(.int (tl + (2 : Int32))), (.ref pp)])) rfl (by rw [hml]; rfl) rfl (argsL := [(.int (tl + (2 : Int32)))]) (rest := []) rfl (lenOf o_pd1 rfl) rfl (hb hby o_d7_88) (o_b rfl) (o_b rfl) (o_b rfl) (o_b rfl)
 obtain ⟨h134, e134⟩ : ∃ z, T134.heap = z := ⟨_, rfl⟩
 rw [e134] at hQ134
 obtain ⟨tm134, fr134, xs134, fs134, rfl, N134, hR134, ra134, rb134⟩ := hQ134
 have N_134 := Fr.app N_106 N134
 obtain ⟨Ep135, Er135, Ew135, F135_cpus, F135_times, F135_free, F135_head, F135_tail, F135_lastAt, F135_runs, F135_firstKnown, F135_watcher, F135_watchedAs, F135_changes, F135_merged, F135_gaveBack, F135_recent, Fn135, At135, Af135, Ar135, nt135, wl135, gp135, gt135, gf135, gr135, gu135⟩ := hR134
 have ne136 : o_ne pp ru := Ep135.ne Er135 (by decide)
 have ne137 : o_ne pp tm134 := At135.neExa Ep135 (o_m hw 8 rfl)
 have ne138 : o_ne ru tm134 := At135.neExa Er135 (o_m hw 17 rfl)
 have ne139 : o_ne pp fr134 := Af135.neExa Ep135 (o_m hw 8 rfl)
 have ne140 : o_ne ru fr134 := Af135.neExa Er135 (o_m hw 17 rfl)
 have ne141 : o_ne pp rc := Ar135.neExa Ep135 (o_m hw 8 rfl)
 have ne142 : o_ne ru rc := Ar135.neExa Er135 (o_m hw 17 rfl)
 have ne143 : o_ne wa pp := Nat.ne_of_lt (Nat.lt_of_lt_of_le wl135 gp135)
 have ne144 : o_ne wa tm134 := Nat.ne_of_lt (Nat.lt_of_lt_of_le wl135 gt135)
 have ne145 : o_ne wa fr134 := Nat.ne_of_lt (Nat.lt_of_lt_of_le wl135 gf135)
 have ne146 : o_ne wa rc := Nat.ne_of_lt (Nat.lt_of_lt_of_le wl135 gr135)
 have ne147 : o_ne wa ru := Nat.ne_of_lt (Nat.lt_of_lt_of_le wl135 gu135)
 have ne148 : o_ne tm134 fr134 := At135.ne Af135 (by intro q; cases q)
 have ne149 : o_ne fr134 rc := Af135.ne Ar135 (by intro q; cases q)
 refine o_q T134 (o_f21 m 91 pp start ending (-1 : Int32) kp [(.int (0 : Int32))]) st134 ?_
 refine o_q T134 (o_f21 m 92 pp start ending (-1 : Int32) kp []) (fun _ k => XS.pop X134.here hx rfl (hb hby o_d7_91) rfl rfl k) ?_
 refine o_q T134 (o_f21 m 93 pp start ending (-1 : Int32) kp [(.ref pp)]) (fun _ k => XS.aloadN X134.here hx rfl (hb hby o_d7_92) rfl rfl k) ?_
 refine o_q T134 (o_f21 m 94 pp start ending (-1 : Int32) kp [(.long start), (.ref pp)]) (fun _ k => XS.lloadN X134.here hx rfl (hb hby o_d7_93) rfl k) ?_
 have q150 : 1 ≤ tl.toInt := by
  have r1 := rng32 tl
  omega
 have q151 : tl.toInt ≤ L2.toInt := by
  have r1 := rng32 tl
  have r2 := rng32 L2
  omega
 have q152 : L2.toInt ≤ 32 := by
  have r1 := rng32 L2
  omega
 have q153 : tl.toInt + 1 ≤ L2.toInt := by
  have r1 := rng32 tl
  have r2 := rng32 L2
  omega
 have hP154 : o_Pr Z n0 pp rc ru wa tm134 fr134 tl la L2 (ch + (1 : Int64)) gb xs134 fs134 (o_put rs (cn + 1) start ending (0 : Int64)) h134 := ⟨Ep135, Er135, Ew135, F135_cpus, F135_times, F135_free, F135_head, F135_tail, F135_lastAt, F135_runs, F135_firstKnown, F135_watcher, F135_watchedAs, F135_changes, F135_merged, F135_gaveBack, F135_recent, Fn135, At135, Af135, Ar135, nt135, wl135, gp135, gt135, gf135, gr135, gu135⟩
 obtain ⟨v155, T155, L155, hQ155, X155, st155⟩ := o_callP X134 hx hZ e134 hown (o_m hw 84 rfl) (o_m hw 85 rfl) (o_m hw 8 rfl) (o_m hw 86 rfl) (by decide) (a := pp) Ep135 (o_m hw 87 rfl) (o_m hw 9 rfl) (o_split l Z a0 hw n0 pp rc ru wa tm134 fr134 tl la L2 (ch + (1 : Int64)) gb xs134 fs134 (o_put rs (cn + 1) start ending (0 : Int64)) start h134 hP154 q150 q151 q152 q153) (g := (o_f21 m 94 pp start ending (-1 : Int32) kp [(.long start), (.ref pp)])) rfl (by rw [hml]; rfl) rfl (argsL := [(.long start)]) (rest := []) rfl (lenOf o_pd7 rfl) rfl (hb hby o_d7_94) (o_b rfl) (o_b rfl) (o_b rfl) (o_b rfl)
 obtain ⟨h155, e155⟩ : ∃ z, T155.heap = z := ⟨_, rfl⟩
 rw [e155] at hQ155
 obtain ⟨r155, tl155, la155, xs155, fs155, rfl, N155, hR155, pa155, pb155, pc155, pd155, pe155, pf155, pg155⟩ := hQ155
 have N_155 := Fr.app N_134 N155
 obtain ⟨Ep156, Er156, Ew156, F156_cpus, F156_times, F156_free, F156_head, F156_tail, F156_lastAt, F156_runs, F156_firstKnown, F156_watcher, F156_watchedAs, F156_changes, F156_merged, F156_gaveBack, F156_recent, Fn156, At156, Af156, Ar156, nt156, wl156, gp156, gt156, gf156, gr156, gu156⟩ := hR155
 have ne157 : o_ne pp ru := Ep156.ne Er156 (by decide)
 have ne158 : o_ne pp tm134 := At156.neExa Ep156 (o_m hw 8 rfl)
 have ne159 : o_ne ru tm134 := At156.neExa Er156 (o_m hw 17 rfl)
 have ne160 : o_ne pp fr134 := Af156.neExa Ep156 (o_m hw 8 rfl)
 have ne161 : o_ne ru fr134 := Af156.neExa Er156 (o_m hw 17 rfl)
 have ne162 : o_ne pp rc := Ar156.neExa Ep156 (o_m hw 8 rfl)
 have ne163 : o_ne ru rc := Ar156.neExa Er156 (o_m hw 17 rfl)
 have ne164 : o_ne wa pp := Nat.ne_of_lt (Nat.lt_of_lt_of_le wl156 gp156)
 have ne165 : o_ne wa tm134 := Nat.ne_of_lt (Nat.lt_of_lt_of_le wl156 gt156)
 have ne166 : o_ne wa fr134 := Nat.ne_of_lt (Nat.lt_of_lt_of_le wl156 gf156)
 have ne167 : o_ne wa rc := Nat.ne_of_lt (Nat.lt_of_lt_of_le wl156 gr156)
 have ne168 : o_ne wa ru := Nat.ne_of_lt (Nat.lt_of_lt_of_le wl156 gu156)
 have ne169 : o_ne tm134 fr134 := At156.ne Af156 (by intro q; cases q)
 have ne170 : o_ne fr134 rc := Af156.ne Ar156 (by intro q; cases q)
 refine o_q T155 (o_f21 m 97 pp start ending (-1 : Int32) kp [(.int r155)]) st155 ?_
 refine o_q T155 (o_f22 m 99 pp start ending (-1 : Int32) kp r155 []) (fun _ k => XS.istore X155.here hx rfl (hb hby o_d7_97) rfl (l' := (o_t22 pp start ending (-1 : Int32) kp r155)) rfl k) ?_
 refine o_q T155 (o_f22 m 100 pp start ending (-1 : Int32) kp r155 [(.ref pp)]) (fun _ k => XS.aloadN X155.here hx rfl (hb hby o_d7_99) rfl rfl k) ?_
 refine o_q T155 (o_f22 m 101 pp start ending (-1 : Int32) kp r155 [(.long ending), (.ref pp)]) (fun _ k => XS.lloadN X155.here hx rfl (hb hby o_d7_100) rfl k) ?_
 have q171 : 1 ≤ tl155.toInt := by
  have r1 := rng32 tl155
  omega
 have q172 : tl155.toInt ≤ L2.toInt := by
  have r1 := rng32 tl155
  have r2 := rng32 L2
  omega
 have q173 : L2.toInt ≤ 32 := by
  have r1 := rng32 L2
  omega
 have q174 : tl155.toInt + 1 ≤ L2.toInt := by
  have r1 := rng32 tl155
  have r2 := rng32 L2
  omega
 have hP175 : o_Pr Z n0 pp rc ru wa tm134 fr134 tl155 la155 L2 (ch + (1 : Int64)) gb xs155 fs155 (o_put rs (cn + 1) start ending (0 : Int64)) h155 := ⟨Ep156, Er156, Ew156, F156_cpus, F156_times, F156_free, F156_head, F156_tail, F156_lastAt, F156_runs, F156_firstKnown, F156_watcher, F156_watchedAs, F156_changes, F156_merged, F156_gaveBack, F156_recent, Fn156, At156, Af156, Ar156, nt156, wl156, gp156, gt156, gf156, gr156, gu156⟩
 obtain ⟨v176, T176, L176, hQ176, X176, st176⟩ := o_callP X155 hx hZ e155 hown (o_m hw 84 rfl) (o_m hw 85 rfl) (o_m hw 8 rfl) (o_m hw 86 rfl) (by decide) (a := pp) Ep156 (o_m hw 87 rfl) (o_m hw 9 rfl) (o_split l Z a0 hw n0 pp rc ru wa tm134 fr134 tl155 la155 L2 (ch + (1 : Int64)) gb xs155 fs155 (o_put rs (cn + 1) start ending (0 : Int64)) ending h155 hP175 q171 q172 q173 q174) (g := (o_f22 m 101 pp start ending (-1 : Int32) kp r155 [(.long ending), (.ref pp)])) rfl (by rw [hml]; rfl) rfl (argsL := [(.long ending)]) (rest := []) rfl (lenOf o_pd7 rfl) rfl (hb hby o_d7_101) (o_b rfl) (o_b rfl) (o_b rfl) (o_b rfl)
 obtain ⟨h176, e176⟩ : ∃ z, T176.heap = z := ⟨_, rfl⟩
 rw [e176] at hQ176
 obtain ⟨r176, tl176, la176, xs176, fs176, rfl, N176, hR176, pa176, pb176, pc176, pd176, pe176, pf176, pg176⟩ := hQ176
 have N_176 := Fr.app N_155 N176
 obtain ⟨Ep177, Er177, Ew177, F177_cpus, F177_times, F177_free, F177_head, F177_tail, F177_lastAt, F177_runs, F177_firstKnown, F177_watcher, F177_watchedAs, F177_changes, F177_merged, F177_gaveBack, F177_recent, Fn177, At177, Af177, Ar177, nt177, wl177, gp177, gt177, gf177, gr177, gu177⟩ := hR176
 have ne178 : o_ne pp ru := Ep177.ne Er177 (by decide)
 have ne179 : o_ne pp tm134 := At177.neExa Ep177 (o_m hw 8 rfl)
 have ne180 : o_ne ru tm134 := At177.neExa Er177 (o_m hw 17 rfl)
 have ne181 : o_ne pp fr134 := Af177.neExa Ep177 (o_m hw 8 rfl)
 have ne182 : o_ne ru fr134 := Af177.neExa Er177 (o_m hw 17 rfl)
 have ne183 : o_ne pp rc := Ar177.neExa Ep177 (o_m hw 8 rfl)
 have ne184 : o_ne ru rc := Ar177.neExa Er177 (o_m hw 17 rfl)
 have ne185 : o_ne wa pp := Nat.ne_of_lt (Nat.lt_of_lt_of_le wl177 gp177)
 have ne186 : o_ne wa tm134 := Nat.ne_of_lt (Nat.lt_of_lt_of_le wl177 gt177)
 have ne187 : o_ne wa fr134 := Nat.ne_of_lt (Nat.lt_of_lt_of_le wl177 gf177)
 have ne188 : o_ne wa rc := Nat.ne_of_lt (Nat.lt_of_lt_of_le wl177 gr177)
 have ne189 : o_ne wa ru := Nat.ne_of_lt (Nat.lt_of_lt_of_le wl177 gu177)
 have ne190 : o_ne tm134 fr134 := At177.ne Af177 (by intro q; cases q)
 have ne191 : o_ne fr134 rc := Af177.ne Ar177 (by intro q; cases q)
 refine o_q T176 (o_f22 m 104 pp start ending (-1 : Int32) kp r155 [(.int r176)]) st176 ?_
 refine o_q T176 (o_f23 m 106 pp start ending (-1 : Int32) kp r155 r176 []) (fun _ k => XS.istore X176.here hx rfl (hb hby o_d7_104) rfl (l' := (o_t23 pp start ending (-1 : Int32) kp r155 r176)) rfl k) ?_
 refine o_q T176 (o_f23 m 108 pp start ending (-1 : Int32) kp r155 r176 [(.int r155)]) (fun _ k => XS.iload X176.here hx rfl (hb hby o_d7_106) rfl k) ?_
 refine o_q T176 (o_f19 m 110 pp start ending (-1 : Int32) kp r155 r176 r155 []) (fun _ k => XS.istore X176.here hx rfl (hb hby o_d7_108) rfl (l' := (o_t19 pp start ending (-1 : Int32) kp r155 r176 r155)) rfl k) ?_
 have hP192 : o_Pr Z n0 pp rc ru wa tm134 fr134 tl176 la176 L2 (ch + (1 : Int64)) gb xs176 fs176 (o_put rs (cn + 1) start ending (0 : Int64)) h176 := ⟨Ep177, Er177, Ew177, F177_cpus, F177_times, F177_free, F177_head, F177_tail, F177_lastAt, F177_runs, F177_firstKnown, F177_watcher, F177_watchedAs, F177_changes, F177_merged, F177_gaveBack, F177_recent, Fn177, At177, Af177, Ar177, nt177, wl177, gp177, gt177, gf177, gr177, gu177⟩
 have n0193 : 1 ≤ tl.toNatClampNeg := by
  have r1 := rng32 tl
  have n0 := o_nat (tl) (by omega)
  omega
 have n1193 : 1 ≤ tl155.toNatClampNeg := by
  have r1 := rng32 tl155
  have n0 := o_nat (tl155) (by omega)
  omega
 have S0193 : o_S lo hi tl.toNatClampNeg xs134 fs134 := o_Sgrow n0193 Sg ra134 rb134
 have x0193 : xs134 0 = xs 0 := ra134 0 (by omega)
 have S1193 := o_Ssplit n0193 S0193 (fun q => by rw [x0193]; exact hz q) pe155 pg155
 have S2193 := o_Ssplit n1193 S1193 (fun q => by rw [pf155, x0193]; exact o_lt3 (hz q) hse) pe176 pg176
 obtain ⟨S3193, U3193⟩ := o_Sinit Dd S2193
 have q194 : 1 ≤ tl176.toInt := by
  have r1 := rng32 tl176
  omega
 have q195 : tl176.toInt ≤ L2.toInt := by
  have r1 := rng32 tl176
  have r2 := rng32 L2
  omega
 have q196 : L2.toInt ≤ 32 := by
  have r1 := rng32 L2
  omega
 have q197 : r176.toInt < tl176.toInt := by
  have r1 := rng32 r176
  have r2 := rng32 tl176
  omega
 have q198 : 0 ≤ r176.toInt := by
  have r1 := rng32 r176
  omega
 have q199 : 0 ≤ r155.toInt := by
  have r1 := rng32 r155
  omega
 have q200 : r155.toInt ≤ 33 := by
  have r1 := rng32 r155
  have r2 := rng32 tl155
  have r3 := rng32 tl176
  omega
 have q201 : 0 ≤ r155.toInt := by
  have r1 := rng32 r155
  omega
 have q202 : r176.toInt - r155.toInt + 40 ≤ (100 : Nat) := by
  have r1 := rng32 r176
  have r2 := rng32 r155
  have r3 := rng32 tl176
  omega
 have GL := o_addG_m1_loop Z a0 hw n0 pp rc ru wa tm134 fr134 tl176 la176 L2 (ch + (1 : Int64)) gb xs176 (o_put rs (cn + 1) start ending (0 : Int64)) kp r155 r176 start ending lo hi lo1 hi1 q194 q195 q196 q197 q198 q199 Dd hx hby hml hZ hown hret hlk 100 r155 fs176 _ _ X176 e176 N_176 hP192 q200 q201 q202 S3193 (fun j _ h => U3193 j h)
 have q203 : tl176.toInt ≤ tl.toInt + 2 := by
  have r1 := rng32 tl155
  have r2 := rng32 tl176
  have r3 := rng32 tl
  omega
 exact o_mono (fun v h Ls ⟨tl', xs', fs', a1, a2, a3, a4, a5, a6, a7⟩ => ⟨tm134, fr134, tl', la176, xs', fs', a1, a2, a3, a4, Int.le_trans a5 q203, by rw [a6, pf176, pf155, x0193], a7⟩) GL
theorem o_d6_0 : decode o_y15 0 = .ok (.aload_n 0, 1) := by decide +kernel
theorem o_d6_1 : decode o_y15 1 = .ok (.lload_n 1, 1) := by decide +kernel
theorem o_d6_2 : decode o_y15 2 = .ok (.lload_n 3, 1) := by decide +kernel
theorem o_d6_3 : decode o_y15 3 = .ok (.iload 5, 2) := by decide +kernel
theorem o_d6_5 : decode o_y15 5 = .ok (.ineg, 1) := by decide +kernel
theorem o_d6_6 : decode o_y15 6 = .ok (.invokevirtual 177, 3) := by decide +kernel
theorem o_pd9 : parseMethodDescriptor "(JJI)V" = some ⟨[.long, .long, .int], none⟩ := by decide +kernel
theorem o_d6_9 : decode o_y15 9 = .ok (.return_, 1) := by decide +kernel
theorem o_pn6 : plainFor (⟨o_n1, "book", "(JJI)V"⟩ : MethodName) = true := plainFor_of_name (by first | (simp [plainName, overriddenIn]; done) | decide +kernel)
set_option maxRecDepth 65536 in
set_option maxHeartbeats 40000000 in
theorem o_bookN_m1 (l : Launch) (Z : State) (a0 : Array Value) (hw : ∀ d ∈ tables_1, d.before a0 Z = true) (n0 : Nat) (pp rc ru wa tm fr : Addr) (tl la L : Int32) (ch gb : Int64) (xs : Nat → Int64) (fs : Nat → Int32) (rs : Nat → Int64) (start ending : Int64) (cn : Nat) (lo hi lo1 hi1 : Int) (h0 : Heap) (hP : o_Pr Z n0 pp rc ru wa tm fr tl la L ch gb xs fs rs h0) (i1 : 1 ≤ tl.toInt) (i2 : tl.toInt ≤ L.toInt) (i3 : L.toInt ≤ 32) (i4 : tl.toInt + 2 ≤ L.toInt) (hse : start < ending) (hc : ch.toInt = (cn : Int)) (hc2 : cn ≤ 100) (Dd : o_D lo hi lo1 hi1 (-1)) (Sg : o_S lo hi tl.toNatClampNeg xs fs) (hz : hi ≤ 15 → ¬ start < xs 0) :
  o_C l (⟨o_n1, "book", "(JJI)V"⟩ : MethodName) o_y15 6 none (o_R 6 0 0 130) Z h0 #[(.ref pp), (.long start), (.long ending), (.int (1 : Int32))] (fun v h Ls => ∃ (tm' fr' : Addr) (tl' la' : Int32) (xs' : Nat → Int64) (fs' : Nat → Int32), v = none ∧ Fr n0 Ls ∧ o_Pr Z n0 pp rc ru wa tm' fr' tl' la' L (ch + (1 : Int64)) gb xs' fs' (o_put rs (cn + 1) start ending (0 : Int64)) h ∧ 1 ≤ tl'.toInt ∧ tl'.toInt ≤ tl.toInt + 2 ∧ xs' 0 = xs 0 ∧ o_S lo1 hi1 tl'.toNatClampNeg xs' fs') := by
 refine o_body o_pn6 ?_
 intro p e s m below meth c s₁ hx hby hml hZ hown hnm hret hlk X0 e0
 refine o_cast (f' := (o_f24 m 0 pp start ending (1 : Int32) [])) (by first | (simp [entryFrame, mkF, argsToLocals, Value.category, maxLocals]; done) | rfl) ?_
 have Ep0 := hP.1
 refine o_q s₁ (o_f24 m 1 pp start ending (1 : Int32) [(.ref pp)]) (fun _ k => XS.aloadN X0.here hx rfl (hb hby o_d6_0) rfl rfl k) ?_
 refine o_q s₁ (o_f24 m 2 pp start ending (1 : Int32) [(.long start), (.ref pp)]) (fun _ k => XS.lloadN X0.here hx rfl (hb hby o_d6_1) rfl k) ?_
 refine o_q s₁ (o_f24 m 3 pp start ending (1 : Int32) [(.long ending), (.long start), (.ref pp)]) (fun _ k => XS.lloadN X0.here hx rfl (hb hby o_d6_2) rfl k) ?_
 refine o_q s₁ (o_f24 m 5 pp start ending (1 : Int32) [(.int (1 : Int32)), (.long ending), (.long start), (.ref pp)]) (fun _ k => XS.iload X0.here hx rfl (hb hby o_d6_3) rfl k) ?_
 refine o_q s₁ (o_f24 m 6 pp start ending (1 : Int32) [(.int (-1 : Int32)), (.long ending), (.long start), (.ref pp)]) (fun _ k => XS.ineg X0.here hx rfl (hb hby o_d6_5) rfl k) ?_
 obtain ⟨v1, T1, L1, hQ1, X1, st1⟩ := o_callP X0 hx hZ e0 hown (o_m hw 55 rfl) (o_m hw 56 rfl) (o_m hw 8 rfl) (o_m hw 57 rfl) (by decide) (a := pp) Ep0 (o_m hw 58 rfl) (o_m hw 9 rfl) (o_addN_m1 l Z a0 hw n0 pp rc ru wa tm fr tl la L ch gb xs fs rs start ending cn lo hi lo1 hi1 h0 hP i1 i2 i3 i4 hse hc hc2 Dd Sg hz) (g := (o_f24 m 6 pp start ending (1 : Int32) [(.int (-1 : Int32)), (.long ending), (.long start), (.ref pp)])) rfl (by rw [hml]; rfl) rfl (argsL := [(.long start), (.long ending), (.int (-1 : Int32))]) (rest := []) rfl (lenOf o_pd9 rfl) rfl (hb hby o_d6_6) (o_b rfl) (o_b rfl) (o_b rfl) (o_b rfl)
 obtain ⟨tmq, frq, tlq, laq, xsq, fsq, rfl, Nq, hRq, z1, z2, z3, z4⟩ := hQ1
 refine o_q T1 (o_f24 m 9 pp start ending (1 : Int32) []) st1 ?_
 exact o_retV X1 hx hlk hret (hb hby o_d6_9) ⟨tmq, frq, tlq, laq, xsq, fsq, rfl, Fr.app (Fr.nil _) Nq, hRq, z1, z2, z3, z4⟩ (o_b rfl) (o_b rfl)
set_option maxRecDepth 65536 in
set_option maxHeartbeats 40000000 in
theorem o_bookG_m1 (l : Launch) (Z : State) (a0 : Array Value) (hw : ∀ d ∈ tables_1, d.before a0 Z = true) (n0 : Nat) (pp rc ru wa tm fr : Addr) (tl la L : Int32) (ch gb : Int64) (xs : Nat → Int64) (fs : Nat → Int32) (rs : Nat → Int64) (L2 : Int32) (start ending : Int64) (cn : Nat) (lo hi lo1 hi1 : Int) (h0 : Heap) (hP : o_Pr Z n0 pp rc ru wa tm fr tl la L ch gb xs fs rs h0) (i1 : 1 ≤ tl.toInt) (i2 : tl.toInt ≤ L.toInt) (i3 : L2.toInt ≤ 32) (i4 : tl.toInt + 2 ≤ L2.toInt) (lz : L2 = ((2 : Int32) * L)) (lq : L2.toInt = 2 * L.toInt) (lh : (L / (2 : Int32)).toInt ≤ L.toInt) (lv : 4 ≤ L.toInt) (lw : L.toInt ≤ 16) (i5 : L.toInt < tl.toInt + 2) (hse : start < ending) (hc : ch.toInt = (cn : Int)) (hc2 : cn ≤ 100) (Dd : o_D lo hi lo1 hi1 (-1)) (Sg : o_S lo hi tl.toNatClampNeg xs fs) (hz : hi ≤ 15 → ¬ start < xs 0) :
  o_C l (⟨o_n1, "book", "(JJI)V"⟩ : MethodName) o_y15 6 none (o_R 6 2 64 130) Z h0 #[(.ref pp), (.long start), (.long ending), (.int (1 : Int32))] (fun v h Ls => ∃ (tm' fr' : Addr) (tl' la' : Int32) (xs' : Nat → Int64) (fs' : Nat → Int32), v = none ∧ Fr n0 Ls ∧ o_Pr Z n0 pp rc ru wa tm' fr' tl' la' L2 (ch + (1 : Int64)) gb xs' fs' (o_put rs (cn + 1) start ending (0 : Int64)) h ∧ 1 ≤ tl'.toInt ∧ tl'.toInt ≤ tl.toInt + 2 ∧ xs' 0 = xs 0 ∧ o_S lo1 hi1 tl'.toNatClampNeg xs' fs') := by
 refine o_body o_pn6 ?_
 intro p e s m below meth c s₁ hx hby hml hZ hown hnm hret hlk X0 e0
 refine o_cast (f' := (o_f24 m 0 pp start ending (1 : Int32) [])) (by first | (simp [entryFrame, mkF, argsToLocals, Value.category, maxLocals]; done) | rfl) ?_
 have Ep0 := hP.1
 refine o_q s₁ (o_f24 m 1 pp start ending (1 : Int32) [(.ref pp)]) (fun _ k => XS.aloadN X0.here hx rfl (hb hby o_d6_0) rfl rfl k) ?_
 refine o_q s₁ (o_f24 m 2 pp start ending (1 : Int32) [(.long start), (.ref pp)]) (fun _ k => XS.lloadN X0.here hx rfl (hb hby o_d6_1) rfl k) ?_
 refine o_q s₁ (o_f24 m 3 pp start ending (1 : Int32) [(.long ending), (.long start), (.ref pp)]) (fun _ k => XS.lloadN X0.here hx rfl (hb hby o_d6_2) rfl k) ?_
 refine o_q s₁ (o_f24 m 5 pp start ending (1 : Int32) [(.int (1 : Int32)), (.long ending), (.long start), (.ref pp)]) (fun _ k => XS.iload X0.here hx rfl (hb hby o_d6_3) rfl k) ?_
 refine o_q s₁ (o_f24 m 6 pp start ending (1 : Int32) [(.int (-1 : Int32)), (.long ending), (.long start), (.ref pp)]) (fun _ k => XS.ineg X0.here hx rfl (hb hby o_d6_5) rfl k) ?_
 obtain ⟨v1, T1, L1, hQ1, X1, st1⟩ := o_callP X0 hx hZ e0 hown (o_m hw 55 rfl) (o_m hw 56 rfl) (o_m hw 8 rfl) (o_m hw 57 rfl) (by decide) (a := pp) Ep0 (o_m hw 58 rfl) (o_m hw 9 rfl) (o_addG_m1 l Z a0 hw n0 pp rc ru wa tm fr tl la L ch gb xs fs rs L2 start ending cn lo hi lo1 hi1 h0 hP i1 i2 i3 i4 lz lq lh lv lw i5 hse hc hc2 Dd Sg hz) (g := (o_f24 m 6 pp start ending (1 : Int32) [(.int (-1 : Int32)), (.long ending), (.long start), (.ref pp)])) rfl (by rw [hml]; rfl) rfl (argsL := [(.long start), (.long ending), (.int (-1 : Int32))]) (rest := []) rfl (lenOf o_pd9 rfl) rfl (hb hby o_d6_6) (o_b rfl) (o_b rfl) (o_b rfl) (o_b rfl)
 obtain ⟨tmq, frq, tlq, laq, xsq, fsq, rfl, Nq, hRq, z1, z2, z3, z4⟩ := hQ1
 refine o_q T1 (o_f24 m 9 pp start ending (1 : Int32) []) st1 ?_
 exact o_retV X1 hx hlk hret (hb hby o_d6_9) ⟨tmq, frq, tlq, laq, xsq, fsq, rfl, Fr.app (Fr.nil _) Nq, hRq, z1, z2, z3, z4⟩ (o_b rfl) (o_b rfl)
theorem o_d19_40 : decode o_y16 40 = .ok (.lload 7, 2) := by decide +kernel
theorem o_d19_42 : decode o_y16 42 = .ok (.aload_n 0, 1) := by decide +kernel
theorem o_d19_43 : decode o_y16 43 = .ok (.getfield 156, 3) := by decide +kernel
theorem o_d19_46 : decode o_y16 46 = .ok (.lcmp, 1) := by decide +kernel
theorem o_d19_47 : decode o_y16 47 = .ok (.ifCond .gt 52, 3) := by decide +kernel
theorem o_d19_99 : decode o_y16 99 = .ok (.iconst 0, 1) := by decide +kernel
theorem o_d19_100 : decode o_y16 100 = .ok (.ireturn, 1) := by decide +kernel
theorem o_d19_50 : decode o_y16 50 = .ok (.iconst 3, 1) := by decide +kernel
theorem o_d19_51 : decode o_y16 51 = .ok (.lload 7, 2) := by decide +kernel
theorem o_d19_53 : decode o_y16 53 = .ok (.ldc2_w 166, 3) := by decide +kernel
theorem o_d19_56 : decode o_y16 56 = .ok (.lrem, 1) := by decide +kernel
theorem o_d19_57 : decode o_y16 57 = .ok (.l2i, 1) := by decide +kernel
theorem o_d19_58 : decode o_y16 58 = .ok (.imul, 1) := by decide +kernel
theorem o_d19_59 : decode o_y16 59 = .ok (.istore 9, 2) := by decide +kernel
theorem o_d19_61 : decode o_y16 61 = .ok (.aload_n 0, 1) := by decide +kernel
theorem o_d19_62 : decode o_y16 62 = .ok (.getfield 30, 3) := by decide +kernel
theorem o_d19_65 : decode o_y16 65 = .ok (.iload 9, 2) := by decide +kernel
theorem o_d19_67 : decode o_y16 67 = .ok (.laload, 1) := by decide +kernel
theorem o_d19_68 : decode o_y16 68 = .ok (.lload 5, 2) := by decide +kernel
theorem o_d19_70 : decode o_y16 70 = .ok (.lcmp, 1) := by decide +kernel
theorem o_d19_71 : decode o_y16 71 = .ok (.ifCond .ge 19, 3) := by decide +kernel
theorem o_d19_74 : decode o_y16 74 = .ok (.aload_n 0, 1) := by decide +kernel
theorem o_d19_75 : decode o_y16 75 = .ok (.getfield 30, 3) := by decide +kernel
theorem o_d19_78 : decode o_y16 78 = .ok (.iload 9, 2) := by decide +kernel
theorem o_d19_80 : decode o_y16 80 = .ok (.iconst 1, 1) := by decide +kernel
theorem o_d19_81 : decode o_y16 81 = .ok (.iadd, 1) := by decide +kernel
theorem o_d19_82 : decode o_y16 82 = .ok (.laload, 1) := by decide +kernel
theorem o_d19_83 : decode o_y16 83 = .ok (.lload_n 3, 1) := by decide +kernel
theorem o_d19_84 : decode o_y16 84 = .ok (.lcmp, 1) := by decide +kernel
theorem o_d19_85 : decode o_y16 85 = .ok (.ifCond .le 5, 3) := by decide +kernel
theorem o_d19_88 : decode o_y16 88 = .ok (.iconst 1, 1) := by decide +kernel
theorem o_d19_89 : decode o_y16 89 = .ok (.ireturn, 1) := by decide +kernel
theorem o_d19_90 : decode o_y16 90 = .ok (.lload 7, 2) := by decide +kernel
theorem o_d19_92 : decode o_y16 92 = .ok (.lconst 1, 1) := by decide +kernel
theorem o_d19_93 : decode o_y16 93 = .ok (.ladd, 1) := by decide +kernel
theorem o_d19_94 : decode o_y16 94 = .ok (.lstore 7, 2) := by decide +kernel
theorem o_d19_96 : decode o_y16 96 = .ok (.goto (-56), 3) := by decide +kernel
set_option maxRecDepth 65536 in
set_option maxHeartbeats 40000000 in
theorem o_over_loop {p : Program} {l : Launch} {e : Env} {s : State} {m : MethodId} {below : List Frame} {meth : Method} {c : Code} (Z : State) (a0 : Array Value) (hw : ∀ d ∈ tables_1, d.before a0 Z = true) (n0 : Nat) (pp rc ru wa tm fr : Addr) (tl la L : Int32) (ch gb : Int64) (xs : Nat → Int64) (fs : Nat → Int32) (rs : Nat → Int64) (since frmL toL : Int64) (cn sn : Nat) (h0 : Heap) (hP : o_Pr Z n0 pp rc ru wa tm fr tl la L ch gb xs fs rs h0) (hc : ch.toInt = (cn : Int)) (hs : since.toInt = (sn : Int)) (h1 : sn ≤ cn) (h2 : cn ≤ 50)
  (hx : p.tables.exec = Jvm.exec) (hby : c.code = o_y16) (hml : c.maxLocals = 10) (hZ : Z.Warmed39 s.vm) (hown : s.vm.findClass o_n1 = some m.cls) (hret : meth.sig.returnType = some .boolean) (hlk : meth.locks = false) :
  ∀ (k : Nat) (cv : Int64) (cN : Nat) (v9 : Int32) {T : State} (X0 : Stand p l e (o_R 0 0 0 0) s m #[(.ref pp), (.long since), (.long frmL), (.long toL)] below meth c T [] 0 0) (e0 : T.heap = h0), cv.toInt = (cN : Int) → cN + k = cn + 1 → o_G p e below s (o_P (some (.int (o_scan rs frmL toL cN k))) h0) 0 0 T (o_f25 m 40 pp since frmL toL cv v9 []) := by
 intro k
 induction k with
 | zero =>
 intro cv cN v9 T X0 e0 hcv hk
 obtain ⟨Ep1, Er1, Ew1, F1_cpus, F1_times, F1_free, F1_head, F1_tail, F1_lastAt, F1_runs, F1_firstKnown, F1_watcher, F1_watchedAs, F1_changes, F1_merged, F1_gaveBack, F1_recent, Fn1, At1, Af1, Ar1, nt1, wl1, gp1, gt1, gf1, gr1, gu1⟩ := hP
 have ne2 : o_ne pp ru := Ep1.ne Er1 (by decide)
 have ne3 : o_ne pp tm := At1.neExa Ep1 (o_m hw 8 rfl)
 have ne4 : o_ne ru tm := At1.neExa Er1 (o_m hw 17 rfl)
 have ne5 : o_ne pp fr := Af1.neExa Ep1 (o_m hw 8 rfl)
 have ne6 : o_ne ru fr := Af1.neExa Er1 (o_m hw 17 rfl)
 have ne7 : o_ne pp rc := Ar1.neExa Ep1 (o_m hw 8 rfl)
 have ne8 : o_ne ru rc := Ar1.neExa Er1 (o_m hw 17 rfl)
 have ne9 : o_ne wa pp := Nat.ne_of_lt (Nat.lt_of_lt_of_le wl1 gp1)
 have ne10 : o_ne wa tm := Nat.ne_of_lt (Nat.lt_of_lt_of_le wl1 gt1)
 have ne11 : o_ne wa fr := Nat.ne_of_lt (Nat.lt_of_lt_of_le wl1 gf1)
 have ne12 : o_ne wa rc := Nat.ne_of_lt (Nat.lt_of_lt_of_le wl1 gr1)
 have ne13 : o_ne wa ru := Nat.ne_of_lt (Nat.lt_of_lt_of_le wl1 gu1)
 have ne14 : o_ne tm fr := At1.ne Af1 (by intro q; cases q)
 have ne15 : o_ne fr rc := Af1.ne Ar1 (by intro q; cases q)
 refine o_q T (o_f25 m 42 pp since frmL toL cv v9 [(.long cv)]) (fun _ k => XS.lload X0.here hx rfl (hb hby o_d19_40) rfl k) ?_
 refine o_q T (o_f25 m 43 pp since frmL toL cv v9 [(.ref pp), (.long cv)]) (fun _ k => XS.aloadN X0.here hx rfl (hb hby o_d19_42) rfl rfl k) ?_
 obtain ⟨T16, X16, e16, st16⟩ := getF X0 hx hZ hown (host := "") (Or.inl (o_m hw 77 rfl)) Via.refl e0 F1_changes (g := (o_f25 m 43 pp since frmL toL cv v9 [(.ref pp), (.long cv)])) rfl rfl (hb hby o_d19_43)
 refine o_q T16 (o_f25 m 46 pp since frmL toL cv v9 [(.long ch), (.long cv)]) st16 ?_
 refine o_q T16 (o_f25 m 47 pp since frmL toL cv v9 [(.int (lcmpW cv ch))]) (fun _ k => XS.lcmp X16.here hx rfl (hb hby o_d19_46) rfl k) ?_
 refine o_q T16 (o_f25 m 99 pp since frmL toL cv v9 []) (fun _ k => XS.ifYes X16.here hx rfl (pc0 := 47) (pc' := 99) rfl (hb hby o_d19_47) rfl ((if0 _ _).trans (tlt ((lw_gt _ _).mpr (Int64.lt_iff_toInt_lt.mpr (by omega)))).2.2.1) (by decide) (by decide) k) ?_
 refine o_q T16 (o_f25 m 100 pp since frmL toL cv v9 [(.int (0 : Int32))]) (fun _ k => XS.iconst X16.here hx rfl (hb hby o_d19_99) k) ?_
 exact o_retN X16 hx hlk (t := .boolean) hret (by simp) (hb hby o_d19_100) ⟨rfl, rfl, e16⟩ (by decide) (by decide)
 | succ k ih =>
 intro cv cN v9 T X0 e0 hcv hk
 obtain ⟨Ep1, Er1, Ew1, F1_cpus, F1_times, F1_free, F1_head, F1_tail, F1_lastAt, F1_runs, F1_firstKnown, F1_watcher, F1_watchedAs, F1_changes, F1_merged, F1_gaveBack, F1_recent, Fn1, At1, Af1, Ar1, nt1, wl1, gp1, gt1, gf1, gr1, gu1⟩ := hP
 have ne2 : o_ne pp ru := Ep1.ne Er1 (by decide)
 have ne3 : o_ne pp tm := At1.neExa Ep1 (o_m hw 8 rfl)
 have ne4 : o_ne ru tm := At1.neExa Er1 (o_m hw 17 rfl)
 have ne5 : o_ne pp fr := Af1.neExa Ep1 (o_m hw 8 rfl)
 have ne6 : o_ne ru fr := Af1.neExa Er1 (o_m hw 17 rfl)
 have ne7 : o_ne pp rc := Ar1.neExa Ep1 (o_m hw 8 rfl)
 have ne8 : o_ne ru rc := Ar1.neExa Er1 (o_m hw 17 rfl)
 have ne9 : o_ne wa pp := Nat.ne_of_lt (Nat.lt_of_lt_of_le wl1 gp1)
 have ne10 : o_ne wa tm := Nat.ne_of_lt (Nat.lt_of_lt_of_le wl1 gt1)
 have ne11 : o_ne wa fr := Nat.ne_of_lt (Nat.lt_of_lt_of_le wl1 gf1)
 have ne12 : o_ne wa rc := Nat.ne_of_lt (Nat.lt_of_lt_of_le wl1 gr1)
 have ne13 : o_ne wa ru := Nat.ne_of_lt (Nat.lt_of_lt_of_le wl1 gu1)
 have ne14 : o_ne tm fr := At1.ne Af1 (by intro q; cases q)
 have ne15 : o_ne fr rc := Af1.ne Ar1 (by intro q; cases q)
 refine o_q T (o_f25 m 42 pp since frmL toL cv v9 [(.long cv)]) (fun _ k => XS.lload X0.here hx rfl (hb hby o_d19_40) rfl k) ?_
 refine o_q T (o_f25 m 43 pp since frmL toL cv v9 [(.ref pp), (.long cv)]) (fun _ k => XS.aloadN X0.here hx rfl (hb hby o_d19_42) rfl rfl k) ?_
 obtain ⟨T16, X16, e16, st16⟩ := getF X0 hx hZ hown (host := "") (Or.inl (o_m hw 77 rfl)) Via.refl e0 F1_changes (g := (o_f25 m 43 pp since frmL toL cv v9 [(.ref pp), (.long cv)])) rfl rfl (hb hby o_d19_43)
 refine o_q T16 (o_f25 m 46 pp since frmL toL cv v9 [(.long ch), (.long cv)]) st16 ?_
 refine o_q T16 (o_f25 m 47 pp since frmL toL cv v9 [(.int (lcmpW cv ch))]) (fun _ k => XS.lcmp X16.here hx rfl (hb hby o_d19_46) rfl k) ?_
 refine o_q T16 (o_f25 m 50 pp since frmL toL cv v9 []) (fun _ k => XS.ifNo X16.here hx rfl (hb hby o_d19_47) rfl ((if0 _ _).trans (flt (mt (lw_gt _ _).mp (mt Int64.lt_iff_toInt_lt.mp (by omega)))).2.2.1) k) ?_
 refine o_q T16 (o_f25 m 51 pp since frmL toL cv v9 [(.int (3 : Int32))]) (fun _ k => XS.iconst X16.here hx rfl (hb hby o_d19_50) k) ?_
 refine o_q T16 (o_f25 m 53 pp since frmL toL cv v9 [(.long cv), (.int (3 : Int32))]) (fun _ k => XS.lload X16.here hx rfl (hb hby o_d19_51) rfl k) ?_
 refine o_q T16 (o_f25 m 56 pp since frmL toL cv v9 [(.long (8 : Int64)), (.long cv), (.int (3 : Int32))]) (fun _ k => X16.ldc2Long hx hown (mvT hZ (o_m hw 79 rfl)) (g := (o_f25 m 53 pp since frmL toL cv v9 [(.long cv), (.int (3 : Int32))])) rfl (hb hby o_d19_53) _ k) ?_
 refine o_q T16 (o_f25 m 57 pp since frmL toL cv v9 [(.long (cv - (cv / (8 : Int64)) * (8 : Int64))), (.int (3 : Int32))]) (fun _ k => XS.lrem X16.here hx rfl (hb hby o_d19_56) rfl (by decide) k) ?_
 refine o_q T16 (o_f25 m 58 pp since frmL toL cv v9 [(.int ((cv - (cv / (8 : Int64)) * (8 : Int64))).toInt32), (.int (3 : Int32))]) (fun _ k => XS.l2i X16.here hx rfl (hb hby o_d19_57) rfl k) ?_
 refine o_q T16 (o_f25 m 59 pp since frmL toL cv v9 [(.int ((3 : Int32) * ((cv - (cv / (8 : Int64)) * (8 : Int64))).toInt32))]) (fun _ k => XS.imul X16.here hx rfl (hb hby o_d19_58) rfl k) ?_
 obtain ⟨kp, h_kp⟩ : ∃ z, z = ((3 : Int32) * ((cv - (cv / (8 : Int64)) * (8 : Int64))).toInt32) := ⟨_, rfl⟩
 rw [← h_kp]
 obtain ⟨q8, hq8⟩ : ∃ z, z = cN % 8 := ⟨_, rfl⟩
 have hk8 : q8 < 8 := hq8 ▸ Nat.mod_lt _ (by decide)
 have hkp : kp.toInt = 3 * (q8 : Int) := by rw [h_kp, o_kept2 (cv) (cN) hcv (by omega), ← hq8]; rfl
 have ja : kp.toNatClampNeg = 3 * q8 := by
  have r1 := rng32 kp
  have n0 := o_nat (kp) (by omega)
  omega
 have jb : ((kp + (1 : Int32))).toNatClampNeg = 3 * q8 + 1 := by
  have r1 := rng32 kp
  have k2 : (1 : Int32).toInt = 1 := by decide
  have e3 : ((kp + (1 : Int32))).toInt = kp.toInt + 1 := by
   rw [Jvm.Free.XT.add32 ⟨by rw [show (1 : Int32).toInt = 1 from by decide]; omega, by rw [show (1 : Int32).toInt = 1 from by decide]; omega⟩]; rw [show (1 : Int32).toInt = 1 from by decide]
  have n0 := o_nat ((kp + (1 : Int32))) (by omega)
  omega
 refine o_q T16 (o_f25 m 61 pp since frmL toL cv kp []) (fun _ k => XS.istore X16.here hx rfl (hb hby o_d19_59) rfl (l' := (o_t25 pp since frmL toL cv kp)) rfl k) ?_
 refine o_q T16 (o_f25 m 62 pp since frmL toL cv kp [(.ref pp)]) (fun _ k => XS.aloadN X16.here hx rfl (hb hby o_d19_61) rfl rfl k) ?_
 obtain ⟨T17, X17, e17, st17⟩ := getF X16 hx hZ hown (host := "") (Or.inl (o_m hw 34 rfl)) Via.refl e16 F1_recent (g := (o_f25 m 62 pp since frmL toL cv kp [(.ref pp)])) rfl rfl (hb hby o_d19_62)
 refine o_q T17 (o_f25 m 65 pp since frmL toL cv kp [(.ref rc)]) st17 ?_
 refine o_q T17 (o_f25 m 67 pp since frmL toL cv kp [(.int kp), (.ref rc)]) (fun _ k => XS.iload X17.here hx rfl (hb hby o_d19_65) rfl k) ?_
 have hin18 : ¬ (kp < (0 : Int32)) ∧ kp < (24 : Int32) := by
  have r1 := rng32 kp
  have k2 : (24 : Int32).toInt = 24 := by decide
  have k3 : (0 : Int32).toInt = 0 := by decide
  rw [Int32.lt_iff_toInt_lt, Int32.lt_iff_toInt_lt]
  omega
 refine o_q T17 (o_f25 m 68 pp since frmL toL cv kp [(.long (rs kp.toNatClampNeg))]) (fun _ k => o_ldJ X17 hx hZ e17 Ar1 hin18 (g := (o_f25 m 67 pp since frmL toL cv kp [(.int kp), (.ref rc)])) rfl rfl (hb hby o_d19_67) _ k) ?_
 refine o_q T17 (o_f25 m 70 pp since frmL toL cv kp [(.long toL), (.long (rs kp.toNatClampNeg))]) (fun _ k => XS.lload X17.here hx rfl (hb hby o_d19_68) rfl k) ?_
 refine o_q T17 (o_f25 m 71 pp since frmL toL cv kp [(.int (lcmpW (rs kp.toNatClampNeg) toL))]) (fun _ k => XS.lcmp X17.here hx rfl (hb hby o_d19_70) rfl k) ?_
 by_cases c0 : (rs kp.toNatClampNeg) < toL
 ·refine o_q T17 (o_f25 m 74 pp since frmL toL cv kp []) (fun _ k => XS.ifNo X17.here hx rfl (hb hby o_d19_71) rfl ((if0 _ _).trans (tlt ((lw_lt _ _).mpr c0)).2.1) k) ?_
  refine o_q T17 (o_f25 m 75 pp since frmL toL cv kp [(.ref pp)]) (fun _ k => XS.aloadN X17.here hx rfl (hb hby o_d19_74) rfl rfl k) ?_
  obtain ⟨T19, X19, e19, st19⟩ := getF X17 hx hZ hown (host := "") (Or.inl (o_m hw 34 rfl)) Via.refl e17 F1_recent (g := (o_f25 m 75 pp since frmL toL cv kp [(.ref pp)])) rfl rfl (hb hby o_d19_75)
  refine o_q T19 (o_f25 m 78 pp since frmL toL cv kp [(.ref rc)]) st19 ?_
  refine o_q T19 (o_f25 m 80 pp since frmL toL cv kp [(.int kp), (.ref rc)]) (fun _ k => XS.iload X19.here hx rfl (hb hby o_d19_78) rfl k) ?_
  refine o_q T19 (o_f25 m 81 pp since frmL toL cv kp [(.int (1 : Int32)), (.int kp), (.ref rc)]) (fun _ k => XS.iconst X19.here hx rfl (hb hby o_d19_80) k) ?_
  refine o_q T19 (o_f25 m 82 pp since frmL toL cv kp [(.int (kp + (1 : Int32))), (.ref rc)]) (fun _ k => XS.iadd X19.here hx rfl (hb hby o_d19_81) rfl k) ?_
  have hin20 : ¬ ((kp + (1 : Int32)) < (0 : Int32)) ∧ (kp + (1 : Int32)) < (24 : Int32) := by
   have r1 := rng32 kp
   have k2 : (1 : Int32).toInt = 1 := by decide
   have e3 : ((kp + (1 : Int32))).toInt = kp.toInt + 1 := by
    rw [Jvm.Free.XT.add32 ⟨by rw [show (1 : Int32).toInt = 1 from by decide]; omega, by rw [show (1 : Int32).toInt = 1 from by decide]; omega⟩]; rw [show (1 : Int32).toInt = 1 from by decide]
   have k4 : (24 : Int32).toInt = 24 := by decide
   have k5 : (0 : Int32).toInt = 0 := by decide
   rw [Int32.lt_iff_toInt_lt, Int32.lt_iff_toInt_lt]
   omega
  refine o_q T19 (o_f25 m 83 pp since frmL toL cv kp [(.long (rs ((kp + (1 : Int32))).toNatClampNeg))]) (fun _ k => o_ldJ X19 hx hZ e19 Ar1 hin20 (g := (o_f25 m 82 pp since frmL toL cv kp [(.int (kp + (1 : Int32))), (.ref rc)])) rfl rfl (hb hby o_d19_82) _ k) ?_
  refine o_q T19 (o_f25 m 84 pp since frmL toL cv kp [(.long frmL), (.long (rs ((kp + (1 : Int32))).toNatClampNeg))]) (fun _ k => XS.lloadN X19.here hx rfl (hb hby o_d19_83) rfl k) ?_
  refine o_q T19 (o_f25 m 85 pp since frmL toL cv kp [(.int (lcmpW (rs ((kp + (1 : Int32))).toNatClampNeg) frmL))]) (fun _ k => XS.lcmp X19.here hx rfl (hb hby o_d19_84) rfl k) ?_
  by_cases c1 : frmL < (rs ((kp + (1 : Int32))).toNatClampNeg)
  ·refine o_q T19 (o_f25 m 88 pp since frmL toL cv kp []) (fun _ k => XS.ifNo X19.here hx rfl (hb hby o_d19_85) rfl ((if0 _ _).trans (tlt ((lw_gt _ _).mpr c1)).2.2.2) k) ?_
   refine o_q T19 (o_f25 m 89 pp since frmL toL cv kp [(.int (1 : Int32))]) (fun _ k => XS.iconst X19.here hx rfl (hb hby o_d19_88) k) ?_
   refine o_retN X19 hx hlk (t := .boolean) hret (by simp) (hb hby o_d19_89) ⟨?_, rfl, e19⟩ (by decide) (by decide)
   rw [o_scan, ← hq8, ← ja, if_pos ⟨c0, by rw [ja, ← jb]; exact c1⟩]; rfl
  ·refine o_q T19 (o_f25 m 90 pp since frmL toL cv kp []) (fun _ k => XS.ifYes X19.here hx rfl (pc0 := 85) (pc' := 90) rfl (hb hby o_d19_85) rfl ((if0 _ _).trans (flt (mt (lw_gt _ _).mp c1)).2.2.2) (by decide) (by decide) k) ?_
   refine o_q T19 (o_f25 m 92 pp since frmL toL cv kp [(.long cv)]) (fun _ k => XS.lload X19.here hx rfl (hb hby o_d19_90) rfl k) ?_
   refine o_q T19 (o_f25 m 93 pp since frmL toL cv kp [(.long (1 : Int64)), (.long cv)]) (fun _ k => XS.lconst X19.here hx rfl (hb hby o_d19_92) k) ?_
   refine o_q T19 (o_f25 m 94 pp since frmL toL cv kp [(.long (cv + (1 : Int64)))]) (fun _ k => XS.ladd X19.here hx rfl (hb hby o_d19_93) rfl k) ?_
   refine o_q T19 (o_f25 m 96 pp since frmL toL (cv + (1 : Int64)) kp []) (fun _ k => XS.lstore X19.here hx rfl (hb hby o_d19_94) rfl (l' := (o_t25 pp since frmL toL (cv + (1 : Int64)) kp)) rfl k) ?_
   refine o_q T19 (o_f25 m 40 pp since frmL toL (cv + (1 : Int64)) kp []) (fun _ k => XS.goto X19.here hx rfl (pc0 := 96) (pc' := 40) rfl (hb hby o_d19_96) (by decide) (by decide) k) ?_
   have hv21 : ((cv + (1 : Int64))).toInt = ((cN + 1 : Nat) : Int) := by
    have r1 := rng64 cv
    have k2 : (1 : Int64).toInt = 1 := by decide
    have e3 := c_ladd (cv) ((1 : Int64))
    have r3 := rng64 ((cv + (1 : Int64)))
    rw [show (1 : Int64).toInt = 1 from by decide] at e3
    omega
   have GL := ih (cv + (1 : Int64)) (cN + 1) kp X19 e19 hv21 (by omega)
   refine o_mono (fun v h Ls q => ?_) GL
   rw [o_scan, ← hq8, ← ja, if_neg (fun q => c1 (by have y := q.2; rw [ja, ← jb] at y; exact y))]; exact q
 ·refine o_q T17 (o_f25 m 90 pp since frmL toL cv kp []) (fun _ k => XS.ifYes X17.here hx rfl (pc0 := 71) (pc' := 90) rfl (hb hby o_d19_71) rfl ((if0 _ _).trans (flt (mt (lw_lt _ _).mp c0)).2.1) (by decide) (by decide) k) ?_
  refine o_q T17 (o_f25 m 92 pp since frmL toL cv kp [(.long cv)]) (fun _ k => XS.lload X17.here hx rfl (hb hby o_d19_90) rfl k) ?_
  refine o_q T17 (o_f25 m 93 pp since frmL toL cv kp [(.long (1 : Int64)), (.long cv)]) (fun _ k => XS.lconst X17.here hx rfl (hb hby o_d19_92) k) ?_
  refine o_q T17 (o_f25 m 94 pp since frmL toL cv kp [(.long (cv + (1 : Int64)))]) (fun _ k => XS.ladd X17.here hx rfl (hb hby o_d19_93) rfl k) ?_
  refine o_q T17 (o_f25 m 96 pp since frmL toL (cv + (1 : Int64)) kp []) (fun _ k => XS.lstore X17.here hx rfl (hb hby o_d19_94) rfl (l' := (o_t25 pp since frmL toL (cv + (1 : Int64)) kp)) rfl k) ?_
  refine o_q T17 (o_f25 m 40 pp since frmL toL (cv + (1 : Int64)) kp []) (fun _ k => XS.goto X17.here hx rfl (pc0 := 96) (pc' := 40) rfl (hb hby o_d19_96) (by decide) (by decide) k) ?_
  have hv22 : ((cv + (1 : Int64))).toInt = ((cN + 1 : Nat) : Int) := by
   have r1 := rng64 cv
   have k2 : (1 : Int64).toInt = 1 := by decide
   have e3 := c_ladd (cv) ((1 : Int64))
   have r3 := rng64 ((cv + (1 : Int64)))
   rw [show (1 : Int64).toInt = 1 from by decide] at e3
   omega
  have GL := ih (cv + (1 : Int64)) (cN + 1) kp X17 e17 hv22 (by omega)
  refine o_mono (fun v h Ls q => ?_) GL
  rw [o_scan, ← hq8, ← ja, if_neg (fun q => c0 q.1)]; exact q
theorem o_d19_0 : decode o_y16 0 = .ok (.lload_n 1, 1) := by decide +kernel
theorem o_d19_1 : decode o_y16 1 = .ok (.aload_n 0, 1) := by decide +kernel
theorem o_d19_2 : decode o_y16 2 = .ok (.getfield 156, 3) := by decide +kernel
theorem o_d19_5 : decode o_y16 5 = .ok (.lcmp, 1) := by decide +kernel
theorem o_d19_6 : decode o_y16 6 = .ok (.ifCond .ne 5, 3) := by decide +kernel
theorem o_d19_9 : decode o_y16 9 = .ok (.iconst 0, 1) := by decide +kernel
theorem o_d19_10 : decode o_y16 10 = .ok (.ireturn, 1) := by decide +kernel
theorem o_d19_11 : decode o_y16 11 = .ok (.lload_n 1, 1) := by decide +kernel
theorem o_d19_12 : decode o_y16 12 = .ok (.aload_n 0, 1) := by decide +kernel
theorem o_d19_13 : decode o_y16 13 = .ok (.getfield 160, 3) := by decide +kernel
theorem o_d19_16 : decode o_y16 16 = .ok (.lcmp, 1) := by decide +kernel
theorem o_d19_17 : decode o_y16 17 = .ok (.ifCond .lt 16, 3) := by decide +kernel
theorem o_d19_20 : decode o_y16 20 = .ok (.aload_n 0, 1) := by decide +kernel
theorem o_d19_21 : decode o_y16 21 = .ok (.getfield 156, 3) := by decide +kernel
theorem o_d19_24 : decode o_y16 24 = .ok (.lload_n 1, 1) := by decide +kernel
theorem o_d19_25 : decode o_y16 25 = .ok (.lsub, 1) := by decide +kernel
theorem o_d19_26 : decode o_y16 26 = .ok (.ldc2_w 166, 3) := by decide +kernel
theorem o_d19_29 : decode o_y16 29 = .ok (.lcmp, 1) := by decide +kernel
theorem o_d19_30 : decode o_y16 30 = .ok (.ifCond .le 5, 3) := by decide +kernel
theorem o_d19_33 : decode o_y16 33 = .ok (.iconst 1, 1) := by decide +kernel
theorem o_d19_34 : decode o_y16 34 = .ok (.ireturn, 1) := by decide +kernel
theorem o_d19_35 : decode o_y16 35 = .ok (.lload_n 1, 1) := by decide +kernel
theorem o_d19_36 : decode o_y16 36 = .ok (.lconst 1, 1) := by decide +kernel
theorem o_d19_37 : decode o_y16 37 = .ok (.ladd, 1) := by decide +kernel
theorem o_d19_38 : decode o_y16 38 = .ok (.lstore 7, 2) := by decide +kernel
theorem o_pn19 : plainFor (⟨o_n1, "changedOver", "(JJJ)Z"⟩ : MethodName) = true := plainFor_of_name (by first | (simp [plainName, overriddenIn]; done) | decide +kernel)
set_option maxRecDepth 65536 in
set_option maxHeartbeats 40000000 in
theorem o_over (l : Launch) (Z : State) (a0 : Array Value) (hw : ∀ d ∈ tables_1, d.before a0 Z = true) (n0 : Nat) (pp rc ru wa tm fr : Addr) (tl la L : Int32) (ch gb : Int64) (xs : Nat → Int64) (fs : Nat → Int32) (rs : Nat → Int64) (since frmL toL : Int64) (cn sn : Nat) (h0 : Heap) (hP : o_Pr Z n0 pp rc ru wa tm fr tl la L ch gb xs fs rs h0) (hc : ch.toInt = (cn : Int)) (hs : since.toInt = (sn : Int)) (h1 : sn ≤ cn) (h2 : cn ≤ 50) :
  o_C l (⟨o_n1, "changedOver", "(JJJ)Z"⟩ : MethodName) o_y16 10 (some .boolean) (o_R 0 0 0 0) Z h0 #[(.ref pp), (.long since), (.long frmL), (.long toL)] (o_P (some (.int (o_co rs frmL toL cn sn))) h0) := by
 refine o_body o_pn19 ?_
 intro p e s m below meth c s₁ hx hby hml hZ hown hnm hret hlk X0 e0
 refine o_cast (f' := (o_f26 m 0 pp since frmL toL [])) (by first | (simp [entryFrame, mkF, argsToLocals, Value.category, maxLocals]; done) | rfl) ?_
 have hPk := hP
 obtain ⟨Ep1, Er1, Ew1, F1_cpus, F1_times, F1_free, F1_head, F1_tail, F1_lastAt, F1_runs, F1_firstKnown, F1_watcher, F1_watchedAs, F1_changes, F1_merged, F1_gaveBack, F1_recent, Fn1, At1, Af1, Ar1, nt1, wl1, gp1, gt1, gf1, gr1, gu1⟩ := hP
 have ne2 : o_ne pp ru := Ep1.ne Er1 (by decide)
 have ne3 : o_ne pp tm := At1.neExa Ep1 (o_m hw 8 rfl)
 have ne4 : o_ne ru tm := At1.neExa Er1 (o_m hw 17 rfl)
 have ne5 : o_ne pp fr := Af1.neExa Ep1 (o_m hw 8 rfl)
 have ne6 : o_ne ru fr := Af1.neExa Er1 (o_m hw 17 rfl)
 have ne7 : o_ne pp rc := Ar1.neExa Ep1 (o_m hw 8 rfl)
 have ne8 : o_ne ru rc := Ar1.neExa Er1 (o_m hw 17 rfl)
 have ne9 : o_ne wa pp := Nat.ne_of_lt (Nat.lt_of_lt_of_le wl1 gp1)
 have ne10 : o_ne wa tm := Nat.ne_of_lt (Nat.lt_of_lt_of_le wl1 gt1)
 have ne11 : o_ne wa fr := Nat.ne_of_lt (Nat.lt_of_lt_of_le wl1 gf1)
 have ne12 : o_ne wa rc := Nat.ne_of_lt (Nat.lt_of_lt_of_le wl1 gr1)
 have ne13 : o_ne wa ru := Nat.ne_of_lt (Nat.lt_of_lt_of_le wl1 gu1)
 have ne14 : o_ne tm fr := At1.ne Af1 (by intro q; cases q)
 have ne15 : o_ne fr rc := Af1.ne Ar1 (by intro q; cases q)
 refine o_q s₁ (o_f26 m 1 pp since frmL toL [(.long since)]) (fun _ k => XS.lloadN X0.here hx rfl (hb hby o_d19_0) rfl k) ?_
 refine o_q s₁ (o_f26 m 2 pp since frmL toL [(.ref pp), (.long since)]) (fun _ k => XS.aloadN X0.here hx rfl (hb hby o_d19_1) rfl rfl k) ?_
 obtain ⟨T16, X16, e16, st16⟩ := getF X0 hx hZ hown (host := "") (Or.inl (o_m hw 77 rfl)) Via.refl e0 F1_changes (g := (o_f26 m 2 pp since frmL toL [(.ref pp), (.long since)])) rfl rfl (hb hby o_d19_2)
 refine o_q T16 (o_f26 m 5 pp since frmL toL [(.long ch), (.long since)]) st16 ?_
 refine o_q T16 (o_f26 m 6 pp since frmL toL [(.int (lcmpW since ch))]) (fun _ k => XS.lcmp X16.here hx rfl (hb hby o_d19_5) rfl k) ?_
 by_cases c0 : since = ch
 ·refine o_q T16 (o_f26 m 9 pp since frmL toL []) (fun _ k => XS.ifNo X16.here hx rfl (hb hby o_d19_6) rfl ((if0 _ _).trans (teq ((lw_eq _ _).mpr c0)).2) k) ?_
  refine o_q T16 (o_f26 m 10 pp since frmL toL [(.int (0 : Int32))]) (fun _ k => XS.iconst X16.here hx rfl (hb hby o_d19_9) k) ?_
  refine o_retN X16 hx hlk (t := .boolean) hret (by simp) (hb hby o_d19_10) ⟨?_, rfl, e16⟩ (by decide) (by decide)
  rw [o_co, if_pos (o_eqeq c0 hs hc)]; rfl
 ·refine o_q T16 (o_f26 m 11 pp since frmL toL []) (fun _ k => XS.ifYes X16.here hx rfl (pc0 := 6) (pc' := 11) rfl (hb hby o_d19_6) rfl ((if0 _ _).trans (feq (mt (lw_eq _ _).mp c0)).2) (by decide) (by decide) k) ?_
  refine o_q T16 (o_f26 m 12 pp since frmL toL [(.long since)]) (fun _ k => XS.lloadN X16.here hx rfl (hb hby o_d19_11) rfl k) ?_
  refine o_q T16 (o_f26 m 13 pp since frmL toL [(.ref pp), (.long since)]) (fun _ k => XS.aloadN X16.here hx rfl (hb hby o_d19_12) rfl rfl k) ?_
  obtain ⟨T17, X17, e17, st17⟩ := getF X16 hx hZ hown (host := "") (Or.inl (o_m hw 131 rfl)) Via.refl e16 F1_merged (g := (o_f26 m 13 pp since frmL toL [(.ref pp), (.long since)])) rfl rfl (hb hby o_d19_13)
  refine o_q T17 (o_f26 m 16 pp since frmL toL [(.long (0 : Int64)), (.long since)]) st17 ?_
  refine o_q T17 (o_f26 m 17 pp since frmL toL [(.int (lcmpW since (0 : Int64)))]) (fun _ k => XS.lcmp X17.here hx rfl (hb hby o_d19_16) rfl k) ?_
  refine o_q T17 (o_f26 m 20 pp since frmL toL []) (fun _ k => XS.ifNo X17.here hx rfl (hb hby o_d19_17) rfl ((if0 _ _).trans (flt (mt (lw_lt _ _).mp (o_nlt0L (by omega)))).1) k) ?_
  refine o_q T17 (o_f26 m 21 pp since frmL toL [(.ref pp)]) (fun _ k => XS.aloadN X17.here hx rfl (hb hby o_d19_20) rfl rfl k) ?_
  obtain ⟨T18, X18, e18, st18⟩ := getF X17 hx hZ hown (host := "") (Or.inl (o_m hw 77 rfl)) Via.refl e17 F1_changes (g := (o_f26 m 21 pp since frmL toL [(.ref pp)])) rfl rfl (hb hby o_d19_21)
  refine o_q T18 (o_f26 m 24 pp since frmL toL [(.long ch)]) st18 ?_
  refine o_q T18 (o_f26 m 25 pp since frmL toL [(.long since), (.long ch)]) (fun _ k => XS.lloadN X18.here hx rfl (hb hby o_d19_24) rfl k) ?_
  refine o_q T18 (o_f26 m 26 pp since frmL toL [(.long (ch - since))]) (fun _ k => XS.lsub X18.here hx rfl (hb hby o_d19_25) rfl k) ?_
  refine o_q T18 (o_f26 m 29 pp since frmL toL [(.long (8 : Int64)), (.long (ch - since))]) (fun _ k => X18.ldc2Long hx hown (mvT hZ (o_m hw 79 rfl)) (g := (o_f26 m 26 pp since frmL toL [(.long (ch - since))])) rfl (hb hby o_d19_26) _ k) ?_
  refine o_q T18 (o_f26 m 30 pp since frmL toL [(.int (lcmpW (ch - since) (8 : Int64)))]) (fun _ k => XS.lcmp X18.here hx rfl (hb hby o_d19_29) rfl k) ?_
  by_cases c1 : (8 : Int64) < (ch - since)
  ·refine o_q T18 (o_f26 m 33 pp since frmL toL []) (fun _ k => XS.ifNo X18.here hx rfl (hb hby o_d19_30) rfl ((if0 _ _).trans (tlt ((lw_gt _ _).mpr c1)).2.2.2) k) ?_
   refine o_q T18 (o_f26 m 34 pp since frmL toL [(.int (1 : Int32))]) (fun _ k => XS.iconst X18.here hx rfl (hb hby o_d19_33) k) ?_
   refine o_retN X18 hx hlk (t := .boolean) hret (by simp) (hb hby o_d19_34) ⟨?_, rfl, e18⟩ (by decide) (by decide)
   have n8 : 8 < cn - sn := by
    have y := Int64.lt_iff_toInt_lt.mp c1
    have r1 := rng64 ch
    have r2 := rng64 since
    have e3 := c_lsub (ch) (since)
    have r3 := rng64 ((ch - since))
    have k4 : (8 : Int64).toInt = 8 := by decide
    omega
   rw [o_co, if_neg (o_eqne c0 hs hc), if_pos n8]; rfl
  ·refine o_q T18 (o_f26 m 35 pp since frmL toL []) (fun _ k => XS.ifYes X18.here hx rfl (pc0 := 30) (pc' := 35) rfl (hb hby o_d19_30) rfl ((if0 _ _).trans (flt (mt (lw_gt _ _).mp c1)).2.2.2) (by decide) (by decide) k) ?_
   refine o_q T18 (o_f26 m 36 pp since frmL toL [(.long since)]) (fun _ k => XS.lloadN X18.here hx rfl (hb hby o_d19_35) rfl k) ?_
   refine o_q T18 (o_f26 m 37 pp since frmL toL [(.long (1 : Int64)), (.long since)]) (fun _ k => XS.lconst X18.here hx rfl (hb hby o_d19_36) k) ?_
   refine o_q T18 (o_f26 m 38 pp since frmL toL [(.long (since + (1 : Int64)))]) (fun _ k => XS.ladd X18.here hx rfl (hb hby o_d19_37) rfl k) ?_
   refine o_q T18 (o_f27 m 40 pp since frmL toL (since + (1 : Int64)) []) (fun _ k => XS.lstore X18.here hx rfl (hb hby o_d19_38) rfl (l' := (o_t27 pp since frmL toL (since + (1 : Int64)))) rfl k) ?_
   have hcv : (since + (1 : Int64)).toInt = ((sn + 1 : Nat) : Int) := by
    have r1 := rng64 since
    have k2 : (1 : Int64).toInt = 1 := by decide
    have e3 := c_ladd (since) ((1 : Int64))
    have r3 := rng64 ((since + (1 : Int64)))
    rw [show (1 : Int64).toInt = 1 from by decide] at e3
    omega
   have nsc := o_eqne c0 hs hc
   have n8 : ¬ 8 < cn - sn := by
    have y := mt Int64.lt_iff_toInt_lt.mpr c1
    have r1 := rng64 ch
    have r2 := rng64 since
    have e3 := c_lsub (ch) (since)
    have r3 := rng64 ((ch - since))
    have k4 : (8 : Int64).toInt = 8 := by decide
    omega
   refine o_q T18 (o_f27 m 42 pp since frmL toL (since + (1 : Int64)) [(.long (since + (1 : Int64)))]) (fun _ k => XS.lload X18.here hx rfl (hb hby o_d19_40) rfl k) ?_
   refine o_q T18 (o_f27 m 43 pp since frmL toL (since + (1 : Int64)) [(.ref pp), (.long (since + (1 : Int64)))]) (fun _ k => XS.aloadN X18.here hx rfl (hb hby o_d19_42) rfl rfl k) ?_
   obtain ⟨T19, X19, e19, st19⟩ := getF X18 hx hZ hown (host := "") (Or.inl (o_m hw 77 rfl)) Via.refl e18 F1_changes (g := (o_f27 m 43 pp since frmL toL (since + (1 : Int64)) [(.ref pp), (.long (since + (1 : Int64)))])) rfl rfl (hb hby o_d19_43)
   refine o_q T19 (o_f27 m 46 pp since frmL toL (since + (1 : Int64)) [(.long ch), (.long (since + (1 : Int64)))]) st19 ?_
   refine o_q T19 (o_f27 m 47 pp since frmL toL (since + (1 : Int64)) [(.int (lcmpW (since + (1 : Int64)) ch))]) (fun _ k => XS.lcmp X19.here hx rfl (hb hby o_d19_46) rfl k) ?_
   refine o_q T19 (o_f27 m 50 pp since frmL toL (since + (1 : Int64)) []) (fun _ k => XS.ifNo X19.here hx rfl (hb hby o_d19_47) rfl ((if0 _ _).trans (flt (mt (lw_gt _ _).mp (mt Int64.lt_iff_toInt_lt.mp (by rw [hcv]; have := o_eqne c0 hs hc; omega)))).2.2.1) k) ?_
   refine o_q T19 (o_f27 m 51 pp since frmL toL (since + (1 : Int64)) [(.int (3 : Int32))]) (fun _ k => XS.iconst X19.here hx rfl (hb hby o_d19_50) k) ?_
   refine o_q T19 (o_f27 m 53 pp since frmL toL (since + (1 : Int64)) [(.long (since + (1 : Int64))), (.int (3 : Int32))]) (fun _ k => XS.lload X19.here hx rfl (hb hby o_d19_51) rfl k) ?_
   refine o_q T19 (o_f27 m 56 pp since frmL toL (since + (1 : Int64)) [(.long (8 : Int64)), (.long (since + (1 : Int64))), (.int (3 : Int32))]) (fun _ k => X19.ldc2Long hx hown (mvT hZ (o_m hw 79 rfl)) (g := (o_f27 m 53 pp since frmL toL (since + (1 : Int64)) [(.long (since + (1 : Int64))), (.int (3 : Int32))])) rfl (hb hby o_d19_53) _ k) ?_
   refine o_q T19 (o_f27 m 57 pp since frmL toL (since + (1 : Int64)) [(.long ((since + (1 : Int64)) - ((since + (1 : Int64)) / (8 : Int64)) * (8 : Int64))), (.int (3 : Int32))]) (fun _ k => XS.lrem X19.here hx rfl (hb hby o_d19_56) rfl (by decide) k) ?_
   refine o_q T19 (o_f27 m 58 pp since frmL toL (since + (1 : Int64)) [(.int (((since + (1 : Int64)) - ((since + (1 : Int64)) / (8 : Int64)) * (8 : Int64))).toInt32), (.int (3 : Int32))]) (fun _ k => XS.l2i X19.here hx rfl (hb hby o_d19_57) rfl k) ?_
   refine o_q T19 (o_f27 m 59 pp since frmL toL (since + (1 : Int64)) [(.int ((3 : Int32) * (((since + (1 : Int64)) - ((since + (1 : Int64)) / (8 : Int64)) * (8 : Int64))).toInt32))]) (fun _ k => XS.imul X19.here hx rfl (hb hby o_d19_58) rfl k) ?_
   obtain ⟨kp, h_kp⟩ : ∃ z, z = ((3 : Int32) * (((since + (1 : Int64)) - ((since + (1 : Int64)) / (8 : Int64)) * (8 : Int64))).toInt32) := ⟨_, rfl⟩
   rw [← h_kp]
   obtain ⟨q8, hq8⟩ : ∃ z, z = (sn + 1) % 8 := ⟨_, rfl⟩
   have hk8 : q8 < 8 := hq8 ▸ Nat.mod_lt _ (by decide)
   have hkp : kp.toInt = 3 * (q8 : Int) := by rw [h_kp, o_kept2 ((since + (1 : Int64))) ((sn + 1)) hcv (by omega), ← hq8]; rfl
   have ja : kp.toNatClampNeg = 3 * q8 := by
    have r1 := rng32 kp
    have n0 := o_nat (kp) (by omega)
    omega
   have jb : ((kp + (1 : Int32))).toNatClampNeg = 3 * q8 + 1 := by
    have r1 := rng32 kp
    have k2 : (1 : Int32).toInt = 1 := by decide
    have e3 : ((kp + (1 : Int32))).toInt = kp.toInt + 1 := by
     rw [Jvm.Free.XT.add32 ⟨by rw [show (1 : Int32).toInt = 1 from by decide]; omega, by rw [show (1 : Int32).toInt = 1 from by decide]; omega⟩]; rw [show (1 : Int32).toInt = 1 from by decide]
    have n0 := o_nat ((kp + (1 : Int32))) (by omega)
    omega
   refine o_q T19 (o_f25 m 61 pp since frmL toL (since + (1 : Int64)) kp []) (fun _ k => XS.istore X19.here hx rfl (hb hby o_d19_59) rfl (l' := (o_t25 pp since frmL toL (since + (1 : Int64)) kp)) rfl k) ?_
   refine o_q T19 (o_f25 m 62 pp since frmL toL (since + (1 : Int64)) kp [(.ref pp)]) (fun _ k => XS.aloadN X19.here hx rfl (hb hby o_d19_61) rfl rfl k) ?_
   obtain ⟨T20, X20, e20, st20⟩ := getF X19 hx hZ hown (host := "") (Or.inl (o_m hw 34 rfl)) Via.refl e19 F1_recent (g := (o_f25 m 62 pp since frmL toL (since + (1 : Int64)) kp [(.ref pp)])) rfl rfl (hb hby o_d19_62)
   refine o_q T20 (o_f25 m 65 pp since frmL toL (since + (1 : Int64)) kp [(.ref rc)]) st20 ?_
   refine o_q T20 (o_f25 m 67 pp since frmL toL (since + (1 : Int64)) kp [(.int kp), (.ref rc)]) (fun _ k => XS.iload X20.here hx rfl (hb hby o_d19_65) rfl k) ?_
   have hin21 : ¬ (kp < (0 : Int32)) ∧ kp < (24 : Int32) := by
    have r1 := rng32 kp
    have k2 : (24 : Int32).toInt = 24 := by decide
    have k3 : (0 : Int32).toInt = 0 := by decide
    rw [Int32.lt_iff_toInt_lt, Int32.lt_iff_toInt_lt]
    omega
   refine o_q T20 (o_f25 m 68 pp since frmL toL (since + (1 : Int64)) kp [(.long (rs kp.toNatClampNeg))]) (fun _ k => o_ldJ X20 hx hZ e20 Ar1 hin21 (g := (o_f25 m 67 pp since frmL toL (since + (1 : Int64)) kp [(.int kp), (.ref rc)])) rfl rfl (hb hby o_d19_67) _ k) ?_
   refine o_q T20 (o_f25 m 70 pp since frmL toL (since + (1 : Int64)) kp [(.long toL), (.long (rs kp.toNatClampNeg))]) (fun _ k => XS.lload X20.here hx rfl (hb hby o_d19_68) rfl k) ?_
   refine o_q T20 (o_f25 m 71 pp since frmL toL (since + (1 : Int64)) kp [(.int (lcmpW (rs kp.toNatClampNeg) toL))]) (fun _ k => XS.lcmp X20.here hx rfl (hb hby o_d19_70) rfl k) ?_
   by_cases c2 : (rs kp.toNatClampNeg) < toL
   ·refine o_q T20 (o_f25 m 74 pp since frmL toL (since + (1 : Int64)) kp []) (fun _ k => XS.ifNo X20.here hx rfl (hb hby o_d19_71) rfl ((if0 _ _).trans (tlt ((lw_lt _ _).mpr c2)).2.1) k) ?_
    refine o_q T20 (o_f25 m 75 pp since frmL toL (since + (1 : Int64)) kp [(.ref pp)]) (fun _ k => XS.aloadN X20.here hx rfl (hb hby o_d19_74) rfl rfl k) ?_
    obtain ⟨T22, X22, e22, st22⟩ := getF X20 hx hZ hown (host := "") (Or.inl (o_m hw 34 rfl)) Via.refl e20 F1_recent (g := (o_f25 m 75 pp since frmL toL (since + (1 : Int64)) kp [(.ref pp)])) rfl rfl (hb hby o_d19_75)
    refine o_q T22 (o_f25 m 78 pp since frmL toL (since + (1 : Int64)) kp [(.ref rc)]) st22 ?_
    refine o_q T22 (o_f25 m 80 pp since frmL toL (since + (1 : Int64)) kp [(.int kp), (.ref rc)]) (fun _ k => XS.iload X22.here hx rfl (hb hby o_d19_78) rfl k) ?_
    refine o_q T22 (o_f25 m 81 pp since frmL toL (since + (1 : Int64)) kp [(.int (1 : Int32)), (.int kp), (.ref rc)]) (fun _ k => XS.iconst X22.here hx rfl (hb hby o_d19_80) k) ?_
    refine o_q T22 (o_f25 m 82 pp since frmL toL (since + (1 : Int64)) kp [(.int (kp + (1 : Int32))), (.ref rc)]) (fun _ k => XS.iadd X22.here hx rfl (hb hby o_d19_81) rfl k) ?_
    have hin23 : ¬ ((kp + (1 : Int32)) < (0 : Int32)) ∧ (kp + (1 : Int32)) < (24 : Int32) := by
     have r1 := rng32 kp
     have k2 : (1 : Int32).toInt = 1 := by decide
     have e3 : ((kp + (1 : Int32))).toInt = kp.toInt + 1 := by
      rw [Jvm.Free.XT.add32 ⟨by rw [show (1 : Int32).toInt = 1 from by decide]; omega, by rw [show (1 : Int32).toInt = 1 from by decide]; omega⟩]; rw [show (1 : Int32).toInt = 1 from by decide]
     have k4 : (24 : Int32).toInt = 24 := by decide
     have k5 : (0 : Int32).toInt = 0 := by decide
     rw [Int32.lt_iff_toInt_lt, Int32.lt_iff_toInt_lt]
     omega
    refine o_q T22 (o_f25 m 83 pp since frmL toL (since + (1 : Int64)) kp [(.long (rs ((kp + (1 : Int32))).toNatClampNeg))]) (fun _ k => o_ldJ X22 hx hZ e22 Ar1 hin23 (g := (o_f25 m 82 pp since frmL toL (since + (1 : Int64)) kp [(.int (kp + (1 : Int32))), (.ref rc)])) rfl rfl (hb hby o_d19_82) _ k) ?_
    refine o_q T22 (o_f25 m 84 pp since frmL toL (since + (1 : Int64)) kp [(.long frmL), (.long (rs ((kp + (1 : Int32))).toNatClampNeg))]) (fun _ k => XS.lloadN X22.here hx rfl (hb hby o_d19_83) rfl k) ?_
    refine o_q T22 (o_f25 m 85 pp since frmL toL (since + (1 : Int64)) kp [(.int (lcmpW (rs ((kp + (1 : Int32))).toNatClampNeg) frmL))]) (fun _ k => XS.lcmp X22.here hx rfl (hb hby o_d19_84) rfl k) ?_
    by_cases c3 : frmL < (rs ((kp + (1 : Int32))).toNatClampNeg)
    ·refine o_q T22 (o_f25 m 88 pp since frmL toL (since + (1 : Int64)) kp []) (fun _ k => XS.ifNo X22.here hx rfl (hb hby o_d19_85) rfl ((if0 _ _).trans (tlt ((lw_gt _ _).mpr c3)).2.2.2) k) ?_
     refine o_q T22 (o_f25 m 89 pp since frmL toL (since + (1 : Int64)) kp [(.int (1 : Int32))]) (fun _ k => XS.iconst X22.here hx rfl (hb hby o_d19_88) k) ?_
     refine o_retN X22 hx hlk (t := .boolean) hret (by simp) (hb hby o_d19_89) ⟨?_, rfl, e22⟩ (by decide) (by decide)
     rw [o_co, if_neg nsc, if_neg n8, show cn - sn = (cn - sn - 1) + 1 by omega, o_scan, ← hq8, ← ja, if_pos ⟨c2, by rw [ja, ← jb]; exact c3⟩]; rfl
    ·refine o_q T22 (o_f25 m 90 pp since frmL toL (since + (1 : Int64)) kp []) (fun _ k => XS.ifYes X22.here hx rfl (pc0 := 85) (pc' := 90) rfl (hb hby o_d19_85) rfl ((if0 _ _).trans (flt (mt (lw_gt _ _).mp c3)).2.2.2) (by decide) (by decide) k) ?_
     refine o_q T22 (o_f25 m 92 pp since frmL toL (since + (1 : Int64)) kp [(.long (since + (1 : Int64)))]) (fun _ k => XS.lload X22.here hx rfl (hb hby o_d19_90) rfl k) ?_
     refine o_q T22 (o_f25 m 93 pp since frmL toL (since + (1 : Int64)) kp [(.long (1 : Int64)), (.long (since + (1 : Int64)))]) (fun _ k => XS.lconst X22.here hx rfl (hb hby o_d19_92) k) ?_
     refine o_q T22 (o_f25 m 94 pp since frmL toL (since + (1 : Int64)) kp [(.long ((since + (1 : Int64)) + (1 : Int64)))]) (fun _ k => XS.ladd X22.here hx rfl (hb hby o_d19_93) rfl k) ?_
     refine o_q T22 (o_f25 m 96 pp since frmL toL ((since + (1 : Int64)) + (1 : Int64)) kp []) (fun _ k => XS.lstore X22.here hx rfl (hb hby o_d19_94) rfl (l' := (o_t25 pp since frmL toL ((since + (1 : Int64)) + (1 : Int64)) kp)) rfl k) ?_
     refine o_q T22 (o_f25 m 40 pp since frmL toL ((since + (1 : Int64)) + (1 : Int64)) kp []) (fun _ k => XS.goto X22.here hx rfl (pc0 := 96) (pc' := 40) rfl (hb hby o_d19_96) (by decide) (by decide) k) ?_
     have hv24 : (((since + (1 : Int64)) + (1 : Int64))).toInt = ((sn + 2 : Nat) : Int) := by
      have r1 := rng64 since
      have k2 : (1 : Int64).toInt = 1 := by decide
      have e3 := c_ladd (since) ((1 : Int64))
      have r3 := rng64 ((since + (1 : Int64)))
      rw [show (1 : Int64).toInt = 1 from by decide] at e3
      have e4 := c_ladd ((since + (1 : Int64))) ((1 : Int64))
      have r4 := rng64 (((since + (1 : Int64)) + (1 : Int64)))
      rw [show (1 : Int64).toInt = 1 from by decide] at e4
      omega
     have GL := o_over_loop Z a0 hw n0 pp rc ru wa tm fr tl la L ch gb xs fs rs since frmL toL cn sn h0 hPk hc hs h1 h2 hx hby hml hZ hown hret hlk (cn - sn - 1) ((since + (1 : Int64)) + (1 : Int64)) (sn + 2) kp X22 e22 hv24 (by omega)
     refine o_mono (fun v h Ls q => ?_) GL
     rw [o_co, if_neg nsc, if_neg n8, show cn - sn = (cn - sn - 1) + 1 by omega, o_scan, ← hq8, ← ja, if_neg (fun q => c3 (by have y := q.2; rw [ja, ← jb] at y; exact y))]; exact q
   ·refine o_q T20 (o_f25 m 90 pp since frmL toL (since + (1 : Int64)) kp []) (fun _ k => XS.ifYes X20.here hx rfl (pc0 := 71) (pc' := 90) rfl (hb hby o_d19_71) rfl ((if0 _ _).trans (flt (mt (lw_lt _ _).mp c2)).2.1) (by decide) (by decide) k) ?_
    refine o_q T20 (o_f25 m 92 pp since frmL toL (since + (1 : Int64)) kp [(.long (since + (1 : Int64)))]) (fun _ k => XS.lload X20.here hx rfl (hb hby o_d19_90) rfl k) ?_
    refine o_q T20 (o_f25 m 93 pp since frmL toL (since + (1 : Int64)) kp [(.long (1 : Int64)), (.long (since + (1 : Int64)))]) (fun _ k => XS.lconst X20.here hx rfl (hb hby o_d19_92) k) ?_
    refine o_q T20 (o_f25 m 94 pp since frmL toL (since + (1 : Int64)) kp [(.long ((since + (1 : Int64)) + (1 : Int64)))]) (fun _ k => XS.ladd X20.here hx rfl (hb hby o_d19_93) rfl k) ?_
    refine o_q T20 (o_f25 m 96 pp since frmL toL ((since + (1 : Int64)) + (1 : Int64)) kp []) (fun _ k => XS.lstore X20.here hx rfl (hb hby o_d19_94) rfl (l' := (o_t25 pp since frmL toL ((since + (1 : Int64)) + (1 : Int64)) kp)) rfl k) ?_
    refine o_q T20 (o_f25 m 40 pp since frmL toL ((since + (1 : Int64)) + (1 : Int64)) kp []) (fun _ k => XS.goto X20.here hx rfl (pc0 := 96) (pc' := 40) rfl (hb hby o_d19_96) (by decide) (by decide) k) ?_
    have hv25 : (((since + (1 : Int64)) + (1 : Int64))).toInt = ((sn + 2 : Nat) : Int) := by
     have r1 := rng64 since
     have k2 : (1 : Int64).toInt = 1 := by decide
     have e3 := c_ladd (since) ((1 : Int64))
     have r3 := rng64 ((since + (1 : Int64)))
     rw [show (1 : Int64).toInt = 1 from by decide] at e3
     have e4 := c_ladd ((since + (1 : Int64))) ((1 : Int64))
     have r4 := rng64 (((since + (1 : Int64)) + (1 : Int64)))
     rw [show (1 : Int64).toInt = 1 from by decide] at e4
     omega
    have GL := o_over_loop Z a0 hw n0 pp rc ru wa tm fr tl la L ch gb xs fs rs since frmL toL cn sn h0 hPk hc hs h1 h2 hx hby hml hZ hown hret hlk (cn - sn - 1) ((since + (1 : Int64)) + (1 : Int64)) (sn + 2) kp X20 e20 hv25 (by omega)
    refine o_mono (fun v h Ls q => ?_) GL
    rw [o_co, if_neg nsc, if_neg n8, show cn - sn = (cn - sn - 1) + 1 by omega, o_scan, ← hq8, ← ja, if_neg (fun q => c2 q.1)]; exact q
theorem o_d5_0 : decode o_y17 0 = .ok (.aload_n 0, 1) := by decide +kernel
theorem o_d5_1 : decode o_y17 1 = .ok (.invokespecial 5, 3) := by decide +kernel
theorem o_d5_4 : decode o_y17 4 = .ok (.aload_n 0, 1) := by decide +kernel
theorem o_d5_5 : decode o_y17 5 = .ok (.aload_n 1, 1) := by decide +kernel
theorem o_d5_6 : decode o_y17 6 = .ok (.putfield 11, 3) := by decide +kernel
theorem o_d5_9 : decode o_y17 9 = .ok (.return_, 1) := by decide +kernel
theorem o_pn5 : plainFor (⟨o_n3, "<init>", "(Lcom/example/gapwright/gapwright/profile/CpuProfile;)V"⟩ : MethodName) = true := plainFor_of_name (by first | (simp [plainName, overriddenIn]; done) | decide +kernel)
set_option maxRecDepth 65536 in
set_option maxHeartbeats 40000000 in
theorem o_frinit (l : Launch) (Z : State) (a0 : Array Value) (hw : ∀ d ∈ tables_1, d.before a0 Z = true) (a : Addr) (q : Addr) (h0 : Heap) (n0 : Nat) (ga : n0 ≤ a) (E0 : Exa Z h0 a o_n3) (F0_profile : Fld Z h0 a o_n3 "profile" "Lcom/example/gapwright/gapwright/profile/CpuProfile;" .null) (F0_nodes : Fld Z h0 a o_n3 "nodes" "[[J" .null) (F0_blocks : Fld Z h0 a o_n3 "blocks" "I" (.int (0 : Int32))) (F0_bounds : Fld Z h0 a o_n3 "bounds" "[I" .null) (F0_leaves : Fld Z h0 a o_n3 "leaves" "I" (.int (0 : Int32))) :
  o_C l (⟨o_n3, "<init>", "(Lcom/example/gapwright/gapwright/profile/CpuProfile;)V"⟩ : MethodName) o_y17 2 none (o_R 1 0 0 12) Z h0 #[(.ref a), (.ref q)] (fun v h L => v = none ∧ Fr n0 L ∧ Keep h0 h [a] ∧ Exa Z h a o_n3 ∧ Fld Z h a o_n3 "profile" "Lcom/example/gapwright/gapwright/profile/CpuProfile;" (.ref q) ∧ Fld Z h a o_n3 "nodes" "[[J" .null ∧ Fld Z h a o_n3 "blocks" "I" (.int (0 : Int32)) ∧ Fld Z h a o_n3 "bounds" "[I" .null ∧ Fld Z h a o_n3 "leaves" "I" (.int (0 : Int32))) := by
 refine o_body o_pn5 ?_
 intro p e s m below meth c s₁ hx hby hml hZ hown hnm hret hlk X0 e0
 refine o_cast (f' := (o_f28 m 0 a q [])) (by first | (simp [entryFrame, mkF, argsToLocals, Value.category, maxLocals]; done) | rfl) ?_
 refine o_q s₁ (o_f28 m 1 a q [(.ref a)]) (fun _ k => XS.aloadN X0.here hx rfl (hb hby o_d5_0) rfl rfl k) ?_
 obtain ⟨T1, X1, e1, st1⟩ := initO X0 hx hZ hown (o_m hw 22 rfl) (o_m hw 14 rfl) (o_m hw 15 rfl) e0 (g := (o_f28 m 1 a q [(.ref a)])) rfl (by rw [hml]; rfl) rfl (hb hby o_d5_1) (by decide) (W := 0) (by show 2 * 0 + _ ≤ _; exact Nat.le_of_eq rfl) (by decide)
 refine o_q T1 (o_f28 m 4 a q []) st1 ?_
 refine o_q T1 (o_f28 m 5 a q [(.ref a)]) (fun _ k => XS.aloadN X1.here hx rfl (hb hby o_d5_4) rfl rfl k) ?_
 refine o_q T1 (o_f28 m 6 a q [(.ref q), (.ref a)]) (fun _ k => XS.aloadN X1.here hx rfl (hb hby o_d5_5) rfl rfl k) ?_
 obtain ⟨T2, h2, X2, e2, W2, st2⟩ := putF X1 hx hZ hown (host := "") (Or.inl (o_m hw 23 rfl)) Via.refl e1 F0_profile E0 (Or.inr ⟨(o_m hw 24 rfl), rfl, hnm⟩) (o_m hw 17 rfl) (ty := (.object o_n1)) (by decide) rfl rfl (g := (o_f28 m 6 a q [(.ref q), (.ref a)])) rfl rfl (hb hby o_d5_6)
 have Fw2 := F0_profile.same W2
 have N_2 := Fr.snoc X2 (Fr.nil _) ga
 have KP2 : Keep h0 h2 [a] := (Keep.refl h0 [a]).wr W2 (Or.inl (List.mem_of_getElem? (i := 0) rfl))
 have Y3 := E0.wr W2
 have Y5 := F0_nodes.other W2 (o_sn (Or.inl (o_m hw 104 rfl)) (Or.inr (o_m hw 24 rfl)))
 have Y6 := F0_blocks.other W2 (o_sn (Or.inl (o_m hw 168 rfl)) (Or.inr (o_m hw 24 rfl)))
 have Y7 := F0_bounds.other W2 (o_sn (Or.inl (o_m hw 170 rfl)) (Or.inr (o_m hw 24 rfl)))
 have Y8 := F0_leaves.other W2 (o_sn (Or.inl (o_m hw 172 rfl)) (Or.inr (o_m hw 24 rfl)))
 refine o_q T2 (o_f28 m 9 a q []) st2 ?_
 exact o_retV X2 hx hlk hret (hb hby o_d5_9) ⟨rfl, N_2, by rw [e2]; exact KP2, by rw [e2]; exact Y3, by rw [e2]; exact Fw2, by rw [e2]; exact Y5, by rw [e2]; exact Y6, by rw [e2]; exact Y7, by rw [e2]; exact Y8⟩ (by decide) (by decide)
theorem o_d3_0 : decode o_y18 0 = .ok (.aload_n 0, 1) := by decide +kernel
theorem o_d3_1 : decode o_y18 1 = .ok (.invokespecial 3, 3) := by decide +kernel
theorem o_d3_4 : decode o_y18 4 = .ok (.aload_n 0, 1) := by decide +kernel
theorem o_d3_5 : decode o_y18 5 = .ok (.new 9, 3) := by decide +kernel
theorem o_d3_8 : decode o_y18 8 = .ok (.dup, 1) := by decide +kernel
theorem o_d3_9 : decode o_y18 9 = .ok (.aload_n 0, 1) := by decide +kernel
theorem o_d3_10 : decode o_y18 10 = .ok (.invokespecial 11, 3) := by decide +kernel
theorem o_pd12 : parseMethodDescriptor "(Lcom/example/gapwright/gapwright/profile/CpuProfile;)V" = some ⟨[(.object o_n1)], none⟩ := by decide +kernel
theorem o_d3_13 : decode o_y18 13 = .ok (.putfield 14, 3) := by decide +kernel
theorem o_d3_16 : decode o_y18 16 = .ok (.aload_n 0, 1) := by decide +kernel
theorem o_d3_17 : decode o_y18 17 = .ok (.iconst 1, 1) := by decide +kernel
theorem o_d3_18 : decode o_y18 18 = .ok (.newarray .long, 2) := by decide +kernel
theorem o_d3_20 : decode o_y18 20 = .ok (.putfield 20, 3) := by decide +kernel
theorem o_d3_23 : decode o_y18 23 = .ok (.aload_n 0, 1) := by decide +kernel
theorem o_d3_24 : decode o_y18 24 = .ok (.getstatic 24, 3) := by decide +kernel
theorem o_d3_27 : decode o_y18 27 = .ok (.putfield 27, 3) := by decide +kernel
theorem o_d3_30 : decode o_y18 30 = .ok (.aload_n 0, 1) := by decide +kernel
theorem o_d3_31 : decode o_y18 31 = .ok (.bipush 24, 2) := by decide +kernel
theorem o_d3_33 : decode o_y18 33 = .ok (.newarray .long, 2) := by decide +kernel
theorem o_d3_35 : decode o_y18 35 = .ok (.putfield 30, 3) := by decide +kernel
theorem o_d3_38 : decode o_y18 38 = .ok (.aload_n 0, 1) := by decide +kernel
theorem o_d3_39 : decode o_y18 39 = .ok (.getstatic 33, 3) := by decide +kernel
theorem o_d3_42 : decode o_y18 42 = .ok (.putfield 37, 3) := by decide +kernel
theorem o_d3_45 : decode o_y18 45 = .ok (.aload_n 0, 1) := by decide +kernel
theorem o_d3_46 : decode o_y18 46 = .ok (.iload_n 1, 1) := by decide +kernel
theorem o_d3_47 : decode o_y18 47 = .ok (.putfield 40, 3) := by decide +kernel
theorem o_d3_50 : decode o_y18 50 = .ok (.aload_n 0, 1) := by decide +kernel
theorem o_d3_51 : decode o_y18 51 = .ok (.iconst 4, 1) := by decide +kernel
theorem o_d3_52 : decode o_y18 52 = .ok (.newarray .long, 2) := by decide +kernel
theorem o_d3_54 : decode o_y18 54 = .ok (.dup, 1) := by decide +kernel
theorem o_d3_55 : decode o_y18 55 = .ok (.iconst 0, 1) := by decide +kernel
theorem o_d3_56 : decode o_y18 56 = .ok (.ldc2_w 44, 3) := by decide +kernel
theorem o_d3_59 : decode o_y18 59 = .ok (.lastore, 1) := by decide +kernel
theorem o_d3_60 : decode o_y18 60 = .ok (.dup, 1) := by decide +kernel
theorem o_d3_61 : decode o_y18 61 = .ok (.iconst 1, 1) := by decide +kernel
theorem o_d3_62 : decode o_y18 62 = .ok (.lconst 0, 1) := by decide +kernel
theorem o_d3_63 : decode o_y18 63 = .ok (.lastore, 1) := by decide +kernel
theorem o_d3_64 : decode o_y18 64 = .ok (.dup, 1) := by decide +kernel
theorem o_d3_65 : decode o_y18 65 = .ok (.iconst 2, 1) := by decide +kernel
theorem o_d3_66 : decode o_y18 66 = .ok (.lconst 0, 1) := by decide +kernel
theorem o_d3_67 : decode o_y18 67 = .ok (.lastore, 1) := by decide +kernel
theorem o_d3_68 : decode o_y18 68 = .ok (.dup, 1) := by decide +kernel
theorem o_d3_69 : decode o_y18 69 = .ok (.iconst 3, 1) := by decide +kernel
theorem o_d3_70 : decode o_y18 70 = .ok (.lconst 0, 1) := by decide +kernel
theorem o_d3_71 : decode o_y18 71 = .ok (.lastore, 1) := by decide +kernel
theorem o_d3_72 : decode o_y18 72 = .ok (.putfield 46, 3) := by decide +kernel
theorem o_d3_75 : decode o_y18 75 = .ok (.aload_n 0, 1) := by decide +kernel
theorem o_d3_76 : decode o_y18 76 = .ok (.iconst 4, 1) := by decide +kernel
theorem o_d3_77 : decode o_y18 77 = .ok (.newarray .int, 2) := by decide +kernel
theorem o_d3_79 : decode o_y18 79 = .ok (.dup, 1) := by decide +kernel
theorem o_d3_80 : decode o_y18 80 = .ok (.iconst 0, 1) := by decide +kernel
theorem o_d3_81 : decode o_y18 81 = .ok (.iload_n 1, 1) := by decide +kernel
theorem o_d3_82 : decode o_y18 82 = .ok (.iastore, 1) := by decide +kernel
theorem o_d3_83 : decode o_y18 83 = .ok (.dup, 1) := by decide +kernel
theorem o_d3_84 : decode o_y18 84 = .ok (.iconst 1, 1) := by decide +kernel
theorem o_d3_85 : decode o_y18 85 = .ok (.iconst 0, 1) := by decide +kernel
theorem o_d3_86 : decode o_y18 86 = .ok (.iastore, 1) := by decide +kernel
theorem o_d3_87 : decode o_y18 87 = .ok (.dup, 1) := by decide +kernel
theorem o_d3_88 : decode o_y18 88 = .ok (.iconst 2, 1) := by decide +kernel
theorem o_d3_89 : decode o_y18 89 = .ok (.iconst 0, 1) := by decide +kernel
theorem o_d3_90 : decode o_y18 90 = .ok (.iastore, 1) := by decide +kernel
theorem o_d3_91 : decode o_y18 91 = .ok (.dup, 1) := by decide +kernel
theorem o_d3_92 : decode o_y18 92 = .ok (.iconst 3, 1) := by decide +kernel
theorem o_d3_93 : decode o_y18 93 = .ok (.iconst 0, 1) := by decide +kernel
theorem o_d3_94 : decode o_y18 94 = .ok (.iastore, 1) := by decide +kernel
theorem o_d3_95 : decode o_y18 95 = .ok (.putfield 49, 3) := by decide +kernel
theorem o_d3_98 : decode o_y18 98 = .ok (.aload_n 0, 1) := by decide +kernel
theorem o_d3_99 : decode o_y18 99 = .ok (.iconst 1, 1) := by decide +kernel
theorem o_d3_100 : decode o_y18 100 = .ok (.putfield 53, 3) := by decide +kernel
theorem o_d3_103 : decode o_y18 103 = .ok (.return_, 1) := by decide +kernel
theorem o_pn3 : plainFor (⟨o_n1, "<init>", "(I)V"⟩ : MethodName) = true := plainFor_of_name (by first | (simp [plainName, overriddenIn]; done) | decide +kernel)
set_option maxRecDepth 65536 in
set_option maxHeartbeats 40000000 in
theorem o_pinit (l : Launch) (Z : State) (a0 : Array Value) (hw : ∀ d ∈ tables_1, d.before a0 Z = true) (n0 : Nat) (pp wa ni : Addr) (h0 : Heap) (gp0 : n0 ≤ pp) (wl : wa < n0) (E0 : Exa Z h0 pp o_n1) (Ew0 : Exa Z h0 wa o_n2) (Sn : Sta Z h0 o_n1 "NO_INSTANTS" "[J" (.ref ni)) (Sw : Sta Z h0 o_n1 "UNWATCHED" "Lcom/example/gapwright/gapwright/profile/CpuProfile$Watcher;" (.ref wa)) (F0_runs : Fld Z h0 pp o_n1 "runs" "Lcom/example/gapwright/gapwright/profile/FreeRuns;" .null) (F0_firstWith : Fld Z h0 pp o_n1 "firstWith" "[J" .null) (F0_openedAt : Fld Z h0 pp o_n1 "openedAt" "[J" .null) (F0_recent : Fld Z h0 pp o_n1 "recent" "[J" .null) (F0_watcher : Fld Z h0 pp o_n1 "watcher" "Lcom/example/gapwright/gapwright/profile/CpuProfile$Watcher;" .null) (F0_cpus : Fld Z h0 pp o_n1 "cpus" "I" (.int (0 : Int32))) (F0_times : Fld Z h0 pp o_n1 "times" "[J" .null) (F0_free : Fld Z h0 pp o_n1 "free" "[I" .null) (F0_tail : Fld Z h0 pp o_n1 "tail" "I" (.int (0 : Int32))) (F0_firstKnown : Fld Z h0 pp o_n1 "firstKnown" "Z" (.int (0 : Int32))) (F0_watchedAs : Fld Z h0 pp o_n1 "watchedAs" "I" (.int (0 : Int32))) (F0_changes : Fld Z h0 pp o_n1 "changes" "J" (.long (0 : Int64))) (F0_head : Fld Z h0 pp o_n1 "head" "I" (.int (0 : Int32))) (F0_lastAt : Fld Z h0 pp o_n1 "lastAt" "I" (.int (0 : Int32))) (F0_merged : Fld Z h0 pp o_n1 "merged" "J" (.long (0 : Int64))) (F0_gaveBack : Fld Z h0 pp o_n1 "gaveBack" "J" (.long (0 : Int64))) :
  o_C l (⟨o_n1, "<init>", "(I)V"⟩ : MethodName) o_y18 2 none (o_R 2 5 50 27) Z h0 #[(.ref pp), (.int (16 : Int32))] (fun v h Ls => ∃ (rc ru tm' fr' : Addr) (xs' : Nat → Int64) (fs' : Nat → Int32), v = none ∧ Fr n0 Ls ∧ o_Pr Z n0 pp rc ru wa tm' fr' (1 : Int32) (0 : Int32) (4 : Int32) (0 : Int64) (0 : Int64) xs' fs' (fun _ => 0) h ∧ xs' 0 = (-9223372036854775808 : Int64) ∧ (fs' 0).toInt = 16) := by
 refine o_body o_pn3 ?_
 intro p e s m below meth c s₁ hx hby hml hZ hown hnm hret hlk X0 e0
 refine o_cast (f' := (o_f10 m 0 pp (16 : Int32) [])) (by first | (simp [entryFrame, mkF, argsToLocals, Value.category, maxLocals]; done) | rfl) ?_
 have ne1 : o_ne wa pp := Nat.ne_of_lt (Nat.lt_of_lt_of_le wl gp0)
 refine o_q s₁ (o_f10 m 1 pp (16 : Int32) [(.ref pp)]) (fun _ k => XS.aloadN X0.here hx rfl (hb hby o_d3_0) rfl rfl k) ?_
 obtain ⟨T2, X2, e2, st2⟩ := initO X0 hx hZ hown (o_m hw 13 rfl) (o_m hw 14 rfl) (o_m hw 15 rfl) e0 (g := (o_f10 m 1 pp (16 : Int32) [(.ref pp)])) rfl (by rw [hml]; rfl) rfl (hb hby o_d3_1) (by decide) (W := 0) (by show 2 * 0 + _ ≤ _; exact Nat.le_of_eq rfl) (by decide)
 refine o_q T2 (o_f10 m 4 pp (16 : Int32) []) st2 ?_
 refine o_q T2 (o_f10 m 5 pp (16 : Int32) [(.ref pp)]) (fun _ k => XS.aloadN X2.here hx rfl (hb hby o_d3_4) rfl rfl k) ?_
 obtain ⟨T3, h3, X3, e3, E3, A3, D3, -, st3⟩ := newO X2 hx hZ hown (o_m hw 16 rfl) (o_m hw 17 rfl) (o_m hw 18 rfl) e2 (g := (o_f10 m 5 pp (16 : Int32) [(.ref pp)])) rfl (hb hby o_d3_5) (by decide) (by decide)
 obtain ⟨b3, g3⟩ : ∃ z, z = h0.size := ⟨_, rfl⟩
 rw [← g3] at A3 D3 st3
 have ne4 : o_ne pp b3 := Nat.ne_of_lt (Nat.lt_of_lt_of_le E0.lt (Nat.le_of_eq g3.symm))
 have ne5 : o_ne wa b3 := Nat.ne_of_lt (Nat.lt_of_lt_of_le Ew0.lt (Nat.le_of_eq g3.symm))
 have g_b3 : n0 ≤ b3 := Nat.le_trans (Nat.le_of_lt (Nat.lt_of_le_of_lt gp0 E0.lt)) (Nat.le_of_eq g3.symm)
 have Y6 := Sn.ext E3
 have Y7 := Sw.ext E3
 have Y8 := E0.ext E3
 have Y9 := Ew0.ext E3
 have Y10 := F0_runs.ext E3
 have Y11 := F0_firstWith.ext E3
 have Y12 := F0_openedAt.ext E3
 have Y13 := F0_recent.ext E3
 have Y14 := F0_watcher.ext E3
 have Y15 := F0_cpus.ext E3
 have Y16 := F0_times.ext E3
 have Y17 := F0_free.ext E3
 have Y18 := F0_tail.ext E3
 have Y19 := F0_firstKnown.ext E3
 have Y20 := F0_watchedAs.ext E3
 have Y21 := F0_changes.ext E3
 have Y22 := F0_head.ext E3
 have Y23 := F0_lastAt.ext E3
 have Y24 := F0_merged.ext E3
 have Y25 := F0_gaveBack.ext E3
 have F3_profile : Fld Z h3 b3 o_n3 "profile" "Lcom/example/gapwright/gapwright/profile/CpuProfile;" .null := D3 (Or.inr (o_m hw 24 rfl)) (ty := (.object o_n1)) (by decide)
 have F3_nodes : Fld Z h3 b3 o_n3 "nodes" "[[J" .null := D3 (Or.inl (o_m hw 104 rfl)) (ty := (.array (.array .long))) (by decide)
 have F3_blocks : Fld Z h3 b3 o_n3 "blocks" "I" (.int (0 : Int32)) := D3 (Or.inl (o_m hw 168 rfl)) (ty := .int) (by decide)
 have F3_bounds : Fld Z h3 b3 o_n3 "bounds" "[I" .null := D3 (Or.inl (o_m hw 170 rfl)) (ty := (.array .int)) (by decide)
 have F3_leaves : Fld Z h3 b3 o_n3 "leaves" "I" (.int (0 : Int32)) := D3 (Or.inl (o_m hw 172 rfl)) (ty := .int) (by decide)
 refine o_q T3 (o_f10 m 8 pp (16 : Int32) [(.ref b3), (.ref pp)]) st3 ?_
 refine o_q T3 (o_f10 m 9 pp (16 : Int32) [(.ref b3), (.ref b3), (.ref pp)]) (fun _ k => XS.dup X3.here hx rfl (hb hby o_d3_8) rfl rfl k) ?_
 refine o_q T3 (o_f10 m 10 pp (16 : Int32) [(.ref pp), (.ref b3), (.ref b3), (.ref pp)]) (fun _ k => XS.aloadN X3.here hx rfl (hb hby o_d3_9) rfl rfl k) ?_
 obtain ⟨v26, T26, L26, hQ26, X26, st26⟩ := o_callN X3 hx hZ e3 hown rfl (o_m hw 19 rfl) (o_m hw 20 rfl) (by decide) (a := b3) (o_m hw 21 rfl) (o_m hw 18 rfl) (o_frinit l Z a0 hw b3 pp  h3 n0 g_b3 A3 F3_profile F3_nodes F3_blocks F3_bounds F3_leaves ) (g := (o_f10 m 10 pp (16 : Int32) [(.ref pp), (.ref b3), (.ref b3), (.ref pp)])) rfl (by rw [hml]; rfl) rfl (argsL := [(.ref pp)]) (rest := [(.ref b3), (.ref pp)]) rfl (lenOf o_pd12 rfl) rfl (hb hby o_d3_10) (o_b rfl) (o_b rfl) (o_b rfl) (o_b rfl)
 obtain ⟨h26, e26⟩ : ∃ z, T26.heap = z := ⟨_, rfl⟩
 rw [e26] at hQ26
 obtain ⟨rfl, N26, K26, Ee26, Fq26_0, Fq26_1, Fq26_2, Fq26_3, Fq26_4⟩ := hQ26
 have N_26 := Fr.app (Fr.nil _) N26
 have Y27 := o_staK Y6 K26 A3
 have Y28 := o_staK Y7 K26 A3
 have Y29 := Y8.keep K26
 have Y30 := Y9.keep K26
 have Y31 := Y10.keep K26 (ninS ne4 nin0)
 have Y32 := Y11.keep K26 (ninS ne4 nin0)
 have Y33 := Y12.keep K26 (ninS ne4 nin0)
 have Y34 := Y13.keep K26 (ninS ne4 nin0)
 have Y35 := Y14.keep K26 (ninS ne4 nin0)
 have Y36 := Y15.keep K26 (ninS ne4 nin0)
 have Y37 := Y16.keep K26 (ninS ne4 nin0)
 have Y38 := Y17.keep K26 (ninS ne4 nin0)
 have Y39 := Y18.keep K26 (ninS ne4 nin0)
 have Y40 := Y19.keep K26 (ninS ne4 nin0)
 have Y41 := Y20.keep K26 (ninS ne4 nin0)
 have Y42 := Y21.keep K26 (ninS ne4 nin0)
 have Y43 := Y22.keep K26 (ninS ne4 nin0)
 have Y44 := Y23.keep K26 (ninS ne4 nin0)
 have Y45 := Y24.keep K26 (ninS ne4 nin0)
 have Y46 := Y25.keep K26 (ninS ne4 nin0)
 have Y47 := A3.keep K26
 refine o_q T26 (o_f10 m 13 pp (16 : Int32) [(.ref b3), (.ref pp)]) st26 ?_
 obtain ⟨T53, h53, X53, e53, W53, st53⟩ := putF X26 hx hZ hown (host := "") (Or.inl (o_m hw 25 rfl)) Via.refl e26 Y31 Y29 (Or.inr ⟨(o_m hw 26 rfl), rfl, hnm⟩) (o_m hw 8 rfl) (ty := (.object o_n3)) (by decide) rfl rfl (g := (o_f10 m 13 pp (16 : Int32) [(.ref b3), (.ref pp)])) rfl rfl (hb hby o_d3_13)
 have Fw53 := Y31.same W53
 have N_53 := Fr.snoc X53 N_26 gp0
 have Y54 := Y27.wr W53
 have Y55 := Y28.wr W53
 have Y56 := Y29.wr W53
 have Y57 := Y30.wr W53
 have Y59 := Y32.other W53 (o_sn (Or.inl (o_m hw 29 rfl)) (Or.inr (o_m hw 26 rfl)))
 have Y60 := Y33.other W53 (o_sn (Or.inl (o_m hw 33 rfl)) (Or.inr (o_m hw 26 rfl)))
 have Y61 := Y34.other W53 (o_sn (Or.inr (o_m hw 35 rfl)) (Or.inr (o_m hw 26 rfl)))
 have Y62 := Y35.other W53 (o_sn (Or.inl (o_m hw 39 rfl)) (Or.inr (o_m hw 26 rfl)))
 have Y63 := Y36.other W53 (o_sn (Or.inr (o_m hw 41 rfl)) (Or.inr (o_m hw 26 rfl)))
 have Y64 := Y37.other W53 (o_sn (Or.inl (o_m hw 44 rfl)) (Or.inr (o_m hw 26 rfl)))
 have Y65 := Y38.other W53 (o_sn (Or.inl (o_m hw 47 rfl)) (Or.inr (o_m hw 26 rfl)))
 have Y66 := Y39.other W53 (o_sn (Or.inl (o_m hw 49 rfl)) (Or.inr (o_m hw 26 rfl)))
 have Y67 := Y40.other W53 (o_sn (Or.inl (o_m hw 64 rfl)) (Or.inr (o_m hw 26 rfl)))
 have Y68 := Y41.other W53 (o_sn (Or.inl (o_m hw 66 rfl)) (Or.inr (o_m hw 26 rfl)))
 have Y69 := Y42.other W53 (o_sn (Or.inl (o_m hw 78 rfl)) (Or.inr (o_m hw 26 rfl)))
 have Y70 := Y43.other W53 (o_sn (Or.inl (o_m hw 93 rfl)) (Or.inr (o_m hw 26 rfl)))
 have Y71 := Y44.other W53 (o_sn (Or.inl (o_m hw 106 rfl)) (Or.inr (o_m hw 26 rfl)))
 have Y72 := Y45.other W53 (o_sn (Or.inl (o_m hw 132 rfl)) (Or.inr (o_m hw 26 rfl)))
 have Y73 := Y46.other W53 (o_sn (Or.inl (o_m hw 166 rfl)) (Or.inr (o_m hw 26 rfl)))
 have Y74 := Ee26.wr W53
 have Y75 := Fq26_0.other W53 (Or.inl (Ne.symm ne4))
 have Y76 := Fq26_1.other W53 (Or.inl (Ne.symm ne4))
 have Y77 := Fq26_2.other W53 (Or.inl (Ne.symm ne4))
 have Y78 := Fq26_3.other W53 (Or.inl (Ne.symm ne4))
 have Y79 := Fq26_4.other W53 (Or.inl (Ne.symm ne4))
 refine o_q T53 (o_f10 m 16 pp (16 : Int32) []) st53 ?_
 refine o_q T53 (o_f10 m 17 pp (16 : Int32) [(.ref pp)]) (fun _ k => XS.aloadN X53.here hx rfl (hb hby o_d3_16) rfl rfl k) ?_
 refine o_q T53 (o_f10 m 18 pp (16 : Int32) [(.int (1 : Int32)), (.ref pp)]) (fun _ k => XS.iconst X53.here hx rfl (hb hby o_d3_17) k) ?_
 obtain ⟨T80, h80, k80, X80, e80, E80, A80, st80⟩ := newP X53 hx hZ (o_m hw 27 rfl) e53 (g := (o_f10 m 18 pp (16 : Int32) [(.int (1 : Int32)), (.ref pp)])) rfl (hb hby o_d3_18) rfl (by decide) (cap := 1) (by decide) (by decide) (by decide) (by decide)
 obtain ⟨b80, g80⟩ : ∃ z, z = h53.size := ⟨_, rfl⟩
 rw [← g80] at A80 st80
 have ne81 : o_ne pp b80 := Nat.ne_of_lt (Nat.lt_of_lt_of_le Y56.lt (Nat.le_of_eq g80.symm))
 have ne82 : o_ne wa b80 := Nat.ne_of_lt (Nat.lt_of_lt_of_le Y57.lt (Nat.le_of_eq g80.symm))
 have ne83 : o_ne b3 b80 := Nat.ne_of_lt (Nat.lt_of_lt_of_le Y74.lt (Nat.le_of_eq g80.symm))
 have g_b80 : n0 ≤ b80 := Nat.le_trans (Nat.le_of_lt (Nat.lt_of_le_of_lt gp0 Y56.lt)) (Nat.le_of_eq g80.symm)
 have V80 : o_LA Z h80 b80 (1 : Int32) (fun _ => 0) := o_new0 A80 (by decide) rfl
 obtain ⟨f80, d_f80⟩ : ∃ z : Nat → Int64, z = (fun _ => 0) := ⟨_, rfl⟩
 rw [← d_f80] at V80
 have Y84 := Y54.ext E80
 have Y85 := Y55.ext E80
 have Y86 := Y56.ext E80
 have Y87 := Y57.ext E80
 have Y88 := Fw53.ext E80
 have Y89 := Y59.ext E80
 have Y90 := Y60.ext E80
 have Y91 := Y61.ext E80
 have Y92 := Y62.ext E80
 have Y93 := Y63.ext E80
 have Y94 := Y64.ext E80
 have Y95 := Y65.ext E80
 have Y96 := Y66.ext E80
 have Y97 := Y67.ext E80
 have Y98 := Y68.ext E80
 have Y99 := Y69.ext E80
 have Y100 := Y70.ext E80
 have Y101 := Y71.ext E80
 have Y102 := Y72.ext E80
 have Y103 := Y73.ext E80
 have Y104 := Y74.ext E80
 have Y105 := Y75.ext E80
 have Y106 := Y76.ext E80
 have Y107 := Y77.ext E80
 have Y108 := Y78.ext E80
 have Y109 := Y79.ext E80
 refine o_q T80 (o_f10 m 20 pp (16 : Int32) [(.ref b80), (.ref pp)]) st80 ?_
 obtain ⟨T110, h110, X110, e110, W110, st110⟩ := putF X80 hx hZ hown (host := "") (Or.inl (o_m hw 28 rfl)) Via.refl e80 Y89 Y86 (Or.inl (o_m hw 29 rfl)) (o_m hw 8 rfl) (ty := (.array .long)) (by decide) rfl rfl (g := (o_f10 m 20 pp (16 : Int32) [(.ref b80), (.ref pp)])) rfl rfl (hb hby o_d3_20)
 have Fw110 := Y89.same W110
 have N_110 := Fr.snoc X110 N_53 gp0
 have Y111 := Y84.wr W110
 have Y112 := Y85.wr W110
 have Y113 := Y86.wr W110
 have Y114 := Y87.wr W110
 have Y115 := Y88.other W110 (o_sn (Or.inr (o_m hw 26 rfl)) (Or.inl (o_m hw 29 rfl)))
 have Y117 := Y90.other W110 (o_sn (Or.inl (o_m hw 33 rfl)) (Or.inl (o_m hw 29 rfl)))
 have Y118 := Y91.other W110 (o_sn (Or.inr (o_m hw 35 rfl)) (Or.inl (o_m hw 29 rfl)))
 have Y119 := Y92.other W110 (o_sn (Or.inl (o_m hw 39 rfl)) (Or.inl (o_m hw 29 rfl)))
 have Y120 := Y93.other W110 (o_sn (Or.inr (o_m hw 41 rfl)) (Or.inl (o_m hw 29 rfl)))
 have Y121 := Y94.other W110 (o_sn (Or.inl (o_m hw 44 rfl)) (Or.inl (o_m hw 29 rfl)))
 have Y122 := Y95.other W110 (o_sn (Or.inl (o_m hw 47 rfl)) (Or.inl (o_m hw 29 rfl)))
 have Y123 := Y96.other W110 (o_sn (Or.inl (o_m hw 49 rfl)) (Or.inl (o_m hw 29 rfl)))
 have Y124 := Y97.other W110 (o_sn (Or.inl (o_m hw 64 rfl)) (Or.inl (o_m hw 29 rfl)))
 have Y125 := Y98.other W110 (o_sn (Or.inl (o_m hw 66 rfl)) (Or.inl (o_m hw 29 rfl)))
 have Y126 := Y99.other W110 (o_sn (Or.inl (o_m hw 78 rfl)) (Or.inl (o_m hw 29 rfl)))
 have Y127 := Y100.other W110 (o_sn (Or.inl (o_m hw 93 rfl)) (Or.inl (o_m hw 29 rfl)))
 have Y128 := Y101.other W110 (o_sn (Or.inl (o_m hw 106 rfl)) (Or.inl (o_m hw 29 rfl)))
 have Y129 := Y102.other W110 (o_sn (Or.inl (o_m hw 132 rfl)) (Or.inl (o_m hw 29 rfl)))
 have Y130 := Y103.other W110 (o_sn (Or.inl (o_m hw 166 rfl)) (Or.inl (o_m hw 29 rfl)))
 have Y131 := Y104.wr W110
 have Y132 := Y105.other W110 (Or.inl (Ne.symm ne4))
 have Y133 := Y106.other W110 (Or.inl (Ne.symm ne4))
 have Y134 := Y107.other W110 (Or.inl (Ne.symm ne4))
 have Y135 := Y108.other W110 (Or.inl (Ne.symm ne4))
 have Y136 := Y109.other W110 (Or.inl (Ne.symm ne4))
 have Y137 := V80.other W110 (Ne.symm ne81)
 refine o_q T110 (o_f10 m 23 pp (16 : Int32) []) st110 ?_
 refine o_q T110 (o_f10 m 24 pp (16 : Int32) [(.ref pp)]) (fun _ k => XS.aloadN X110.here hx rfl (hb hby o_d3_23) rfl rfl k) ?_
 obtain ⟨T138, X138, e138, st138⟩ := getS2 X110 hx hZ hown (host := "") (Or.inl (o_m hw 30 rfl)) Via.refl e110 Y111 (g := (o_f10 m 24 pp (16 : Int32) [(.ref pp)])) rfl (hb hby o_d3_24)
 refine o_q T138 (o_f10 m 27 pp (16 : Int32) [(.ref ni), (.ref pp)]) st138 ?_
 obtain ⟨T139, h139, X139, e139, W139, st139⟩ := putF X138 hx hZ hown (host := "") (Or.inl (o_m hw 32 rfl)) Via.refl e138 Y117 Y113 (Or.inl (o_m hw 33 rfl)) (o_m hw 8 rfl) (ty := (.array .long)) (by decide) rfl rfl (g := (o_f10 m 27 pp (16 : Int32) [(.ref ni), (.ref pp)])) rfl rfl (hb hby o_d3_27)
 have Fw139 := Y117.same W139
 have N_139 := Fr.snoc X139 N_110 gp0
 have Y140 := Y111.wr W139
 have Y141 := Y112.wr W139
 have Y142 := Y113.wr W139
 have Y143 := Y114.wr W139
 have Y144 := Y115.other W139 (o_sn (Or.inr (o_m hw 26 rfl)) (Or.inl (o_m hw 33 rfl)))
 have Y145 := Fw110.other W139 (o_sn (Or.inl (o_m hw 29 rfl)) (Or.inl (o_m hw 33 rfl)))
 have Y147 := Y118.other W139 (o_sn (Or.inr (o_m hw 35 rfl)) (Or.inl (o_m hw 33 rfl)))
 have Y148 := Y119.other W139 (o_sn (Or.inl (o_m hw 39 rfl)) (Or.inl (o_m hw 33 rfl)))
 have Y149 := Y120.other W139 (o_sn (Or.inr (o_m hw 41 rfl)) (Or.inl (o_m hw 33 rfl)))
 have Y150 := Y121.other W139 (o_sn (Or.inl (o_m hw 44 rfl)) (Or.inl (o_m hw 33 rfl)))
 have Y151 := Y122.other W139 (o_sn (Or.inl (o_m hw 47 rfl)) (Or.inl (o_m hw 33 rfl)))
 have Y152 := Y123.other W139 (o_sn (Or.inl (o_m hw 49 rfl)) (Or.inl (o_m hw 33 rfl)))
 have Y153 := Y124.other W139 (o_sn (Or.inl (o_m hw 64 rfl)) (Or.inl (o_m hw 33 rfl)))
 have Y154 := Y125.other W139 (o_sn (Or.inl (o_m hw 66 rfl)) (Or.inl (o_m hw 33 rfl)))
 have Y155 := Y126.other W139 (o_sn (Or.inl (o_m hw 78 rfl)) (Or.inl (o_m hw 33 rfl)))
 have Y156 := Y127.other W139 (o_sn (Or.inl (o_m hw 93 rfl)) (Or.inl (o_m hw 33 rfl)))
 have Y157 := Y128.other W139 (o_sn (Or.inl (o_m hw 106 rfl)) (Or.inl (o_m hw 33 rfl)))
 have Y158 := Y129.other W139 (o_sn (Or.inl (o_m hw 132 rfl)) (Or.inl (o_m hw 33 rfl)))
 have Y159 := Y130.other W139 (o_sn (Or.inl (o_m hw 166 rfl)) (Or.inl (o_m hw 33 rfl)))
 have Y160 := Y131.wr W139
 have Y161 := Y132.other W139 (Or.inl (Ne.symm ne4))
 have Y162 := Y133.other W139 (Or.inl (Ne.symm ne4))
 have Y163 := Y134.other W139 (Or.inl (Ne.symm ne4))
 have Y164 := Y135.other W139 (Or.inl (Ne.symm ne4))
 have Y165 := Y136.other W139 (Or.inl (Ne.symm ne4))
 have Y166 := Y137.other W139 (Ne.symm ne81)
 refine o_q T139 (o_f10 m 30 pp (16 : Int32) []) st139 ?_
 refine o_q T139 (o_f10 m 31 pp (16 : Int32) [(.ref pp)]) (fun _ k => XS.aloadN X139.here hx rfl (hb hby o_d3_30) rfl rfl k) ?_
 refine o_q T139 (o_f10 m 33 pp (16 : Int32) [(.int (24 : Int32)), (.ref pp)]) (fun _ k => XS.bipush X139.here hx rfl (hb hby o_d3_31) k) ?_
 obtain ⟨T167, h167, k167, X167, e167, E167, A167, st167⟩ := newP X139 hx hZ (o_m hw 27 rfl) e139 (g := (o_f10 m 33 pp (16 : Int32) [(.int (24 : Int32)), (.ref pp)])) rfl (hb hby o_d3_33) rfl (by decide) (cap := 24) (by decide) (by decide) (by decide) (by decide)
 obtain ⟨b167, g167⟩ : ∃ z, z = h139.size := ⟨_, rfl⟩
 rw [← g167] at A167 st167
 have ne168 : o_ne pp b167 := Nat.ne_of_lt (Nat.lt_of_lt_of_le Y142.lt (Nat.le_of_eq g167.symm))
 have ne169 : o_ne wa b167 := Nat.ne_of_lt (Nat.lt_of_lt_of_le Y143.lt (Nat.le_of_eq g167.symm))
 have ne170 : o_ne b3 b167 := Nat.ne_of_lt (Nat.lt_of_lt_of_le Y160.lt (Nat.le_of_eq g167.symm))
 have ne171 : o_ne b80 b167 := Nat.ne_of_lt (Nat.lt_of_lt_of_le Y166.lt (Nat.le_of_eq g167.symm))
 have g_b167 : n0 ≤ b167 := Nat.le_trans (Nat.le_of_lt (Nat.lt_of_le_of_lt gp0 Y142.lt)) (Nat.le_of_eq g167.symm)
 have V167 : o_LA Z h167 b167 (24 : Int32) (fun _ => 0) := o_new0 A167 (by decide) rfl
 obtain ⟨f167, d_f167⟩ : ∃ z : Nat → Int64, z = (fun _ => 0) := ⟨_, rfl⟩
 rw [← d_f167] at V167
 have Y172 := Y140.ext E167
 have Y173 := Y141.ext E167
 have Y174 := Y142.ext E167
 have Y175 := Y143.ext E167
 have Y176 := Y144.ext E167
 have Y177 := Y145.ext E167
 have Y178 := Fw139.ext E167
 have Y179 := Y147.ext E167
 have Y180 := Y148.ext E167
 have Y181 := Y149.ext E167
 have Y182 := Y150.ext E167
 have Y183 := Y151.ext E167
 have Y184 := Y152.ext E167
 have Y185 := Y153.ext E167
 have Y186 := Y154.ext E167
 have Y187 := Y155.ext E167
 have Y188 := Y156.ext E167
 have Y189 := Y157.ext E167
 have Y190 := Y158.ext E167
 have Y191 := Y159.ext E167
 have Y192 := Y160.ext E167
 have Y193 := Y161.ext E167
 have Y194 := Y162.ext E167
 have Y195 := Y163.ext E167
 have Y196 := Y164.ext E167
 have Y197 := Y165.ext E167
 have Y198 := Y166.ext E167
 refine o_q T167 (o_f10 m 35 pp (16 : Int32) [(.ref b167), (.ref pp)]) st167 ?_
 obtain ⟨T199, h199, X199, e199, W199, st199⟩ := putF X167 hx hZ hown (host := "") (Or.inl (o_m hw 34 rfl)) Via.refl e167 Y179 Y174 (Or.inr ⟨(o_m hw 35 rfl), rfl, hnm⟩) (o_m hw 8 rfl) (ty := (.array .long)) (by decide) rfl rfl (g := (o_f10 m 35 pp (16 : Int32) [(.ref b167), (.ref pp)])) rfl rfl (hb hby o_d3_35)
 have Fw199 := Y179.same W199
 have N_199 := Fr.snoc X199 N_139 gp0
 have Y200 := Y172.wr W199
 have Y201 := Y173.wr W199
 have Y202 := Y174.wr W199
 have Y203 := Y175.wr W199
 have Y204 := Y176.other W199 (o_sn (Or.inr (o_m hw 26 rfl)) (Or.inr (o_m hw 35 rfl)))
 have Y205 := Y177.other W199 (o_sn (Or.inl (o_m hw 29 rfl)) (Or.inr (o_m hw 35 rfl)))
 have Y206 := Y178.other W199 (o_sn (Or.inl (o_m hw 33 rfl)) (Or.inr (o_m hw 35 rfl)))
 have Y208 := Y180.other W199 (o_sn (Or.inl (o_m hw 39 rfl)) (Or.inr (o_m hw 35 rfl)))
 have Y209 := Y181.other W199 (o_sn (Or.inr (o_m hw 41 rfl)) (Or.inr (o_m hw 35 rfl)))
 have Y210 := Y182.other W199 (o_sn (Or.inl (o_m hw 44 rfl)) (Or.inr (o_m hw 35 rfl)))
 have Y211 := Y183.other W199 (o_sn (Or.inl (o_m hw 47 rfl)) (Or.inr (o_m hw 35 rfl)))
 have Y212 := Y184.other W199 (o_sn (Or.inl (o_m hw 49 rfl)) (Or.inr (o_m hw 35 rfl)))
 have Y213 := Y185.other W199 (o_sn (Or.inl (o_m hw 64 rfl)) (Or.inr (o_m hw 35 rfl)))
 have Y214 := Y186.other W199 (o_sn (Or.inl (o_m hw 66 rfl)) (Or.inr (o_m hw 35 rfl)))
 have Y215 := Y187.other W199 (o_sn (Or.inl (o_m hw 78 rfl)) (Or.inr (o_m hw 35 rfl)))
 have Y216 := Y188.other W199 (o_sn (Or.inl (o_m hw 93 rfl)) (Or.inr (o_m hw 35 rfl)))
 have Y217 := Y189.other W199 (o_sn (Or.inl (o_m hw 106 rfl)) (Or.inr (o_m hw 35 rfl)))
 have Y218 := Y190.other W199 (o_sn (Or.inl (o_m hw 132 rfl)) (Or.inr (o_m hw 35 rfl)))
 have Y219 := Y191.other W199 (o_sn (Or.inl (o_m hw 166 rfl)) (Or.inr (o_m hw 35 rfl)))
 have Y220 := Y192.wr W199
 have Y221 := Y193.other W199 (Or.inl (Ne.symm ne4))
 have Y222 := Y194.other W199 (Or.inl (Ne.symm ne4))
 have Y223 := Y195.other W199 (Or.inl (Ne.symm ne4))
 have Y224 := Y196.other W199 (Or.inl (Ne.symm ne4))
 have Y225 := Y197.other W199 (Or.inl (Ne.symm ne4))
 have Y226 := Y198.other W199 (Ne.symm ne81)
 have Y227 := V167.other W199 (Ne.symm ne168)
 refine o_q T199 (o_f10 m 38 pp (16 : Int32) []) st199 ?_
 refine o_q T199 (o_f10 m 39 pp (16 : Int32) [(.ref pp)]) (fun _ k => XS.aloadN X199.here hx rfl (hb hby o_d3_38) rfl rfl k) ?_
 obtain ⟨T228, X228, e228, st228⟩ := getS2 X199 hx hZ hown (host := "") (Or.inl (o_m hw 36 rfl)) Via.refl e199 Y201 (g := (o_f10 m 39 pp (16 : Int32) [(.ref pp)])) rfl (hb hby o_d3_39)
 refine o_q T228 (o_f10 m 42 pp (16 : Int32) [(.ref wa), (.ref pp)]) st228 ?_
 obtain ⟨T229, h229, X229, e229, W229, st229⟩ := putF X228 hx hZ hown (host := "") (Or.inl (o_m hw 38 rfl)) Via.refl e228 Y208 Y202 (Or.inl (o_m hw 39 rfl)) (o_m hw 8 rfl) (ty := (.object o_n4)) (by decide) rfl rfl (g := (o_f10 m 42 pp (16 : Int32) [(.ref wa), (.ref pp)])) rfl rfl (hb hby o_d3_42)
 have Fw229 := Y208.same W229
 have N_229 := Fr.snoc X229 N_199 gp0
 have Y230 := Y200.wr W229
 have Y231 := Y201.wr W229
 have Y232 := Y202.wr W229
 have Y233 := Y203.wr W229
 have Y234 := Y204.other W229 (o_sn (Or.inr (o_m hw 26 rfl)) (Or.inl (o_m hw 39 rfl)))
 have Y235 := Y205.other W229 (o_sn (Or.inl (o_m hw 29 rfl)) (Or.inl (o_m hw 39 rfl)))
 have Y236 := Y206.other W229 (o_sn (Or.inl (o_m hw 33 rfl)) (Or.inl (o_m hw 39 rfl)))
 have Y237 := Fw199.other W229 (o_sn (Or.inr (o_m hw 35 rfl)) (Or.inl (o_m hw 39 rfl)))
 have Y239 := Y209.other W229 (o_sn (Or.inr (o_m hw 41 rfl)) (Or.inl (o_m hw 39 rfl)))
 have Y240 := Y210.other W229 (o_sn (Or.inl (o_m hw 44 rfl)) (Or.inl (o_m hw 39 rfl)))
 have Y241 := Y211.other W229 (o_sn (Or.inl (o_m hw 47 rfl)) (Or.inl (o_m hw 39 rfl)))
 have Y242 := Y212.other W229 (o_sn (Or.inl (o_m hw 49 rfl)) (Or.inl (o_m hw 39 rfl)))
 have Y243 := Y213.other W229 (o_sn (Or.inl (o_m hw 64 rfl)) (Or.inl (o_m hw 39 rfl)))
 have Y244 := Y214.other W229 (o_sn (Or.inl (o_m hw 66 rfl)) (Or.inl (o_m hw 39 rfl)))
 have Y245 := Y215.other W229 (o_sn (Or.inl (o_m hw 78 rfl)) (Or.inl (o_m hw 39 rfl)))
 have Y246 := Y216.other W229 (o_sn (Or.inl (o_m hw 93 rfl)) (Or.inl (o_m hw 39 rfl)))
 have Y247 := Y217.other W229 (o_sn (Or.inl (o_m hw 106 rfl)) (Or.inl (o_m hw 39 rfl)))
 have Y248 := Y218.other W229 (o_sn (Or.inl (o_m hw 132 rfl)) (Or.inl (o_m hw 39 rfl)))
 have Y249 := Y219.other W229 (o_sn (Or.inl (o_m hw 166 rfl)) (Or.inl (o_m hw 39 rfl)))
 have Y250 := Y220.wr W229
 have Y251 := Y221.other W229 (Or.inl (Ne.symm ne4))
 have Y252 := Y222.other W229 (Or.inl (Ne.symm ne4))
 have Y253 := Y223.other W229 (Or.inl (Ne.symm ne4))
 have Y254 := Y224.other W229 (Or.inl (Ne.symm ne4))
 have Y255 := Y225.other W229 (Or.inl (Ne.symm ne4))
 have Y256 := Y226.other W229 (Ne.symm ne81)
 have Y257 := Y227.other W229 (Ne.symm ne168)
 refine o_q T229 (o_f10 m 45 pp (16 : Int32) []) st229 ?_
 refine o_q T229 (o_f10 m 46 pp (16 : Int32) [(.ref pp)]) (fun _ k => XS.aloadN X229.here hx rfl (hb hby o_d3_45) rfl rfl k) ?_
 refine o_q T229 (o_f10 m 47 pp (16 : Int32) [(.int (16 : Int32)), (.ref pp)]) (fun _ k => XS.iloadN X229.here hx rfl (hb hby o_d3_46) rfl k) ?_
 obtain ⟨T258, h258, X258, e258, W258, st258⟩ := putF X229 hx hZ hown (host := "") (Or.inl (o_m hw 40 rfl)) Via.refl e229 Y239 Y232 (Or.inr ⟨(o_m hw 41 rfl), rfl, hnm⟩) (o_m hw 8 rfl) (ty := .int) (by decide) rfl rfl (g := (o_f10 m 47 pp (16 : Int32) [(.int (16 : Int32)), (.ref pp)])) rfl rfl (hb hby o_d3_47)
 have Fw258 := Y239.same W258
 have N_258 := Fr.snoc X258 N_229 gp0
 have Y259 := Y230.wr W258
 have Y260 := Y231.wr W258
 have Y261 := Y232.wr W258
 have Y262 := Y233.wr W258
 have Y263 := Y234.other W258 (o_sn (Or.inr (o_m hw 26 rfl)) (Or.inr (o_m hw 41 rfl)))
 have Y264 := Y235.other W258 (o_sn (Or.inl (o_m hw 29 rfl)) (Or.inr (o_m hw 41 rfl)))
 have Y265 := Y236.other W258 (o_sn (Or.inl (o_m hw 33 rfl)) (Or.inr (o_m hw 41 rfl)))
 have Y266 := Y237.other W258 (o_sn (Or.inr (o_m hw 35 rfl)) (Or.inr (o_m hw 41 rfl)))
 have Y267 := Fw229.other W258 (o_sn (Or.inl (o_m hw 39 rfl)) (Or.inr (o_m hw 41 rfl)))
 have Y269 := Y240.other W258 (o_sn (Or.inl (o_m hw 44 rfl)) (Or.inr (o_m hw 41 rfl)))
 have Y270 := Y241.other W258 (o_sn (Or.inl (o_m hw 47 rfl)) (Or.inr (o_m hw 41 rfl)))
 have Y271 := Y242.other W258 (o_sn (Or.inl (o_m hw 49 rfl)) (Or.inr (o_m hw 41 rfl)))
 have Y272 := Y243.other W258 (o_sn (Or.inl (o_m hw 64 rfl)) (Or.inr (o_m hw 41 rfl)))
 have Y273 := Y244.other W258 (o_sn (Or.inl (o_m hw 66 rfl)) (Or.inr (o_m hw 41 rfl)))
 have Y274 := Y245.other W258 (o_sn (Or.inl (o_m hw 78 rfl)) (Or.inr (o_m hw 41 rfl)))
 have Y275 := Y246.other W258 (o_sn (Or.inl (o_m hw 93 rfl)) (Or.inr (o_m hw 41 rfl)))
 have Y276 := Y247.other W258 (o_sn (Or.inl (o_m hw 106 rfl)) (Or.inr (o_m hw 41 rfl)))
 have Y277 := Y248.other W258 (o_sn (Or.inl (o_m hw 132 rfl)) (Or.inr (o_m hw 41 rfl)))
 have Y278 := Y249.other W258 (o_sn (Or.inl (o_m hw 166 rfl)) (Or.inr (o_m hw 41 rfl)))
 have Y279 := Y250.wr W258
 have Y280 := Y251.other W258 (Or.inl (Ne.symm ne4))
 have Y281 := Y252.other W258 (Or.inl (Ne.symm ne4))
 have Y282 := Y253.other W258 (Or.inl (Ne.symm ne4))
 have Y283 := Y254.other W258 (Or.inl (Ne.symm ne4))
 have Y284 := Y255.other W258 (Or.inl (Ne.symm ne4))
 have Y285 := Y256.other W258 (Ne.symm ne81)
 have Y286 := Y257.other W258 (Ne.symm ne168)
 refine o_q T258 (o_f10 m 50 pp (16 : Int32) []) st258 ?_
 refine o_q T258 (o_f10 m 51 pp (16 : Int32) [(.ref pp)]) (fun _ k => XS.aloadN X258.here hx rfl (hb hby o_d3_50) rfl rfl k) ?_
 refine o_q T258 (o_f10 m 52 pp (16 : Int32) [(.int (4 : Int32)), (.ref pp)]) (fun _ k => XS.iconst X258.here hx rfl (hb hby o_d3_51) k) ?_
 obtain ⟨T287, h287, k287, X287, e287, E287, A287, st287⟩ := newP X258 hx hZ (o_m hw 27 rfl) e258 (g := (o_f10 m 52 pp (16 : Int32) [(.int (4 : Int32)), (.ref pp)])) rfl (hb hby o_d3_52) rfl (by decide) (cap := 4) (by decide) (by decide) (by decide) (by decide)
 obtain ⟨b287, g287⟩ : ∃ z, z = h258.size := ⟨_, rfl⟩
 rw [← g287] at A287 st287
 have ne288 : o_ne pp b287 := Nat.ne_of_lt (Nat.lt_of_lt_of_le Y261.lt (Nat.le_of_eq g287.symm))
 have ne289 : o_ne wa b287 := Nat.ne_of_lt (Nat.lt_of_lt_of_le Y262.lt (Nat.le_of_eq g287.symm))
 have ne290 : o_ne b3 b287 := Nat.ne_of_lt (Nat.lt_of_lt_of_le Y279.lt (Nat.le_of_eq g287.symm))
 have ne291 : o_ne b80 b287 := Nat.ne_of_lt (Nat.lt_of_lt_of_le Y285.lt (Nat.le_of_eq g287.symm))
 have ne292 : o_ne b167 b287 := Nat.ne_of_lt (Nat.lt_of_lt_of_le Y286.lt (Nat.le_of_eq g287.symm))
 have g_b287 : n0 ≤ b287 := Nat.le_trans (Nat.le_of_lt (Nat.lt_of_le_of_lt gp0 Y261.lt)) (Nat.le_of_eq g287.symm)
 have V287 : o_LA Z h287 b287 (4 : Int32) (fun _ => 0) := o_new0 A287 (by decide) rfl
 obtain ⟨f287, d_f287⟩ : ∃ z : Nat → Int64, z = (fun _ => 0) := ⟨_, rfl⟩
 rw [← d_f287] at V287
 have Y293 := Y259.ext E287
 have Y294 := Y260.ext E287
 have Y295 := Y261.ext E287
 have Y296 := Y262.ext E287
 have Y297 := Y263.ext E287
 have Y298 := Y264.ext E287
 have Y299 := Y265.ext E287
 have Y300 := Y266.ext E287
 have Y301 := Y267.ext E287
 have Y302 := Fw258.ext E287
 have Y303 := Y269.ext E287
 have Y304 := Y270.ext E287
 have Y305 := Y271.ext E287
 have Y306 := Y272.ext E287
 have Y307 := Y273.ext E287
 have Y308 := Y274.ext E287
 have Y309 := Y275.ext E287
 have Y310 := Y276.ext E287
 have Y311 := Y277.ext E287
 have Y312 := Y278.ext E287
 have Y313 := Y279.ext E287
 have Y314 := Y280.ext E287
 have Y315 := Y281.ext E287
 have Y316 := Y282.ext E287
 have Y317 := Y283.ext E287
 have Y318 := Y284.ext E287
 have Y319 := Y285.ext E287
 have Y320 := Y286.ext E287
 refine o_q T287 (o_f10 m 54 pp (16 : Int32) [(.ref b287), (.ref pp)]) st287 ?_
 refine o_q T287 (o_f10 m 55 pp (16 : Int32) [(.ref b287), (.ref b287), (.ref pp)]) (fun _ k => XS.dup X287.here hx rfl (hb hby o_d3_54) rfl rfl k) ?_
 refine o_q T287 (o_f10 m 56 pp (16 : Int32) [(.int (0 : Int32)), (.ref b287), (.ref b287), (.ref pp)]) (fun _ k => XS.iconst X287.here hx rfl (hb hby o_d3_55) k) ?_
 refine o_q T287 (o_f10 m 59 pp (16 : Int32) [(.long (-9223372036854775808 : Int64)), (.int (0 : Int32)), (.ref b287), (.ref b287), (.ref pp)]) (fun _ k => X287.ldc2Long hx hown (mvT hZ (o_m hw 42 rfl)) (g := (o_f10 m 56 pp (16 : Int32) [(.int (0 : Int32)), (.ref b287), (.ref b287), (.ref pp)])) rfl (hb hby o_d3_56) _ k) ?_
 have hin321 : ¬ ((0 : Int32) < (0 : Int32)) ∧ (0 : Int32) < (4 : Int32) := by
  have k1 : (0 : Int32).toInt = 0 := by decide
  have k2 : (4 : Int32).toInt = 4 := by decide
  rw [Int32.lt_iff_toInt_lt, Int32.lt_iff_toInt_lt]
  omega
 obtain ⟨T322, h322, X322, e322, W322, A322, st322⟩ := o_stJ X287 hx hZ e287 V287 hin321 (g := (o_f10 m 59 pp (16 : Int32) [(.long (-9223372036854775808 : Int64)), (.int (0 : Int32)), (.ref b287), (.ref b287), (.ref pp)])) rfl rfl (hb hby o_d3_59)
 obtain ⟨f322, d_f322⟩ : ∃ z : Nat → Int64, z = (fun i => if i = (0 : Int32).toNatClampNeg then (-9223372036854775808 : Int64) else f287 i) := ⟨_, rfl⟩
 rw [← d_f322] at A322
 have N_322 := Fr.snoc X322 N_258 g_b287
 have Y323 := Y293.wr W322
 have Y324 := Y294.wr W322
 have Y325 := Y295.wr W322
 have Y326 := Y296.wr W322
 have Y327 := Y297.other W322 (Or.inl ne288)
 have Y328 := Y298.other W322 (Or.inl ne288)
 have Y329 := Y299.other W322 (Or.inl ne288)
 have Y330 := Y300.other W322 (Or.inl ne288)
 have Y331 := Y301.other W322 (Or.inl ne288)
 have Y332 := Y302.other W322 (Or.inl ne288)
 have Y333 := Y303.other W322 (Or.inl ne288)
 have Y334 := Y304.other W322 (Or.inl ne288)
 have Y335 := Y305.other W322 (Or.inl ne288)
 have Y336 := Y306.other W322 (Or.inl ne288)
 have Y337 := Y307.other W322 (Or.inl ne288)
 have Y338 := Y308.other W322 (Or.inl ne288)
 have Y339 := Y309.other W322 (Or.inl ne288)
 have Y340 := Y310.other W322 (Or.inl ne288)
 have Y341 := Y311.other W322 (Or.inl ne288)
 have Y342 := Y312.other W322 (Or.inl ne288)
 have Y343 := Y313.wr W322
 have Y344 := Y314.other W322 (Or.inl ne290)
 have Y345 := Y315.other W322 (Or.inl ne290)
 have Y346 := Y316.other W322 (Or.inl ne290)
 have Y347 := Y317.other W322 (Or.inl ne290)
 have Y348 := Y318.other W322 (Or.inl ne290)
 have Y349 := Y319.other W322 ne291
 have Y350 := Y320.other W322 ne292
 refine o_q T322 (o_f10 m 60 pp (16 : Int32) [(.ref b287), (.ref pp)]) st322 ?_
 refine o_q T322 (o_f10 m 61 pp (16 : Int32) [(.ref b287), (.ref b287), (.ref pp)]) (fun _ k => XS.dup X322.here hx rfl (hb hby o_d3_60) rfl rfl k) ?_
 refine o_q T322 (o_f10 m 62 pp (16 : Int32) [(.int (1 : Int32)), (.ref b287), (.ref b287), (.ref pp)]) (fun _ k => XS.iconst X322.here hx rfl (hb hby o_d3_61) k) ?_
 refine o_q T322 (o_f10 m 63 pp (16 : Int32) [(.long (0 : Int64)), (.int (1 : Int32)), (.ref b287), (.ref b287), (.ref pp)]) (fun _ k => XS.lconst X322.here hx rfl (hb hby o_d3_62) k) ?_
 have hin352 : ¬ ((1 : Int32) < (0 : Int32)) ∧ (1 : Int32) < (4 : Int32) := by
  have k1 : (1 : Int32).toInt = 1 := by decide
  have k2 : (4 : Int32).toInt = 4 := by decide
  have k3 : (0 : Int32).toInt = 0 := by decide
  rw [Int32.lt_iff_toInt_lt, Int32.lt_iff_toInt_lt]
  omega
 obtain ⟨T353, h353, X353, e353, W353, A353, st353⟩ := o_stJ X322 hx hZ e322 A322 hin352 (g := (o_f10 m 63 pp (16 : Int32) [(.long (0 : Int64)), (.int (1 : Int32)), (.ref b287), (.ref b287), (.ref pp)])) rfl rfl (hb hby o_d3_63)
 obtain ⟨f353, d_f353⟩ : ∃ z : Nat → Int64, z = (fun i => if i = (1 : Int32).toNatClampNeg then (0 : Int64) else f322 i) := ⟨_, rfl⟩
 rw [← d_f353] at A353
 have N_353 := Fr.snoc X353 N_322 g_b287
 have Y354 := Y323.wr W353
 have Y355 := Y324.wr W353
 have Y356 := Y325.wr W353
 have Y357 := Y326.wr W353
 have Y358 := Y327.other W353 (Or.inl ne288)
 have Y359 := Y328.other W353 (Or.inl ne288)
 have Y360 := Y329.other W353 (Or.inl ne288)
 have Y361 := Y330.other W353 (Or.inl ne288)
 have Y362 := Y331.other W353 (Or.inl ne288)
 have Y363 := Y332.other W353 (Or.inl ne288)
 have Y364 := Y333.other W353 (Or.inl ne288)
 have Y365 := Y334.other W353 (Or.inl ne288)
 have Y366 := Y335.other W353 (Or.inl ne288)
 have Y367 := Y336.other W353 (Or.inl ne288)
 have Y368 := Y337.other W353 (Or.inl ne288)
 have Y369 := Y338.other W353 (Or.inl ne288)
 have Y370 := Y339.other W353 (Or.inl ne288)
 have Y371 := Y340.other W353 (Or.inl ne288)
 have Y372 := Y341.other W353 (Or.inl ne288)
 have Y373 := Y342.other W353 (Or.inl ne288)
 have Y374 := Y343.wr W353
 have Y375 := Y344.other W353 (Or.inl ne290)
 have Y376 := Y345.other W353 (Or.inl ne290)
 have Y377 := Y346.other W353 (Or.inl ne290)
 have Y378 := Y347.other W353 (Or.inl ne290)
 have Y379 := Y348.other W353 (Or.inl ne290)
 have Y380 := Y349.other W353 ne291
 have Y381 := Y350.other W353 ne292
 refine o_q T353 (o_f10 m 64 pp (16 : Int32) [(.ref b287), (.ref pp)]) st353 ?_
 refine o_q T353 (o_f10 m 65 pp (16 : Int32) [(.ref b287), (.ref b287), (.ref pp)]) (fun _ k => XS.dup X353.here hx rfl (hb hby o_d3_64) rfl rfl k) ?_
 refine o_q T353 (o_f10 m 66 pp (16 : Int32) [(.int (2 : Int32)), (.ref b287), (.ref b287), (.ref pp)]) (fun _ k => XS.iconst X353.here hx rfl (hb hby o_d3_65) k) ?_
 refine o_q T353 (o_f10 m 67 pp (16 : Int32) [(.long (0 : Int64)), (.int (2 : Int32)), (.ref b287), (.ref b287), (.ref pp)]) (fun _ k => XS.lconst X353.here hx rfl (hb hby o_d3_66) k) ?_
 have hin383 : ¬ ((2 : Int32) < (0 : Int32)) ∧ (2 : Int32) < (4 : Int32) := by
  have k1 : (2 : Int32).toInt = 2 := by decide
  have k2 : (4 : Int32).toInt = 4 := by decide
  have k3 : (0 : Int32).toInt = 0 := by decide
  rw [Int32.lt_iff_toInt_lt, Int32.lt_iff_toInt_lt]
  omega
 obtain ⟨T384, h384, X384, e384, W384, A384, st384⟩ := o_stJ X353 hx hZ e353 A353 hin383 (g := (o_f10 m 67 pp (16 : Int32) [(.long (0 : Int64)), (.int (2 : Int32)), (.ref b287), (.ref b287), (.ref pp)])) rfl rfl (hb hby o_d3_67)
 obtain ⟨f384, d_f384⟩ : ∃ z : Nat → Int64, z = (fun i => if i = (2 : Int32).toNatClampNeg then (0 : Int64) else f353 i) := ⟨_, rfl⟩
 rw [← d_f384] at A384
 have N_384 := Fr.snoc X384 N_353 g_b287
 have Y385 := Y354.wr W384
 have Y386 := Y355.wr W384
 have Y387 := Y356.wr W384
 have Y388 := Y357.wr W384
 have Y389 := Y358.other W384 (Or.inl ne288)
 have Y390 := Y359.other W384 (Or.inl ne288)
 have Y391 := Y360.other W384 (Or.inl ne288)
 have Y392 := Y361.other W384 (Or.inl ne288)
 have Y393 := Y362.other W384 (Or.inl ne288)
 have Y394 := Y363.other W384 (Or.inl ne288)
 have Y395 := Y364.other W384 (Or.inl ne288)
 have Y396 := Y365.other W384 (Or.inl ne288)
 have Y397 := Y366.other W384 (Or.inl ne288)
 have Y398 := Y367.other W384 (Or.inl ne288)
 have Y399 := Y368.other W384 (Or.inl ne288)
 have Y400 := Y369.other W384 (Or.inl ne288)
 have Y401 := Y370.other W384 (Or.inl ne288)
 have Y402 := Y371.other W384 (Or.inl ne288)
 have Y403 := Y372.other W384 (Or.inl ne288)
 have Y404 := Y373.other W384 (Or.inl ne288)
 have Y405 := Y374.wr W384
 have Y406 := Y375.other W384 (Or.inl ne290)
 have Y407 := Y376.other W384 (Or.inl ne290)
 have Y408 := Y377.other W384 (Or.inl ne290)
 have Y409 := Y378.other W384 (Or.inl ne290)
 have Y410 := Y379.other W384 (Or.inl ne290)
 have Y411 := Y380.other W384 ne291
 have Y412 := Y381.other W384 ne292
 refine o_q T384 (o_f10 m 68 pp (16 : Int32) [(.ref b287), (.ref pp)]) st384 ?_
 refine o_q T384 (o_f10 m 69 pp (16 : Int32) [(.ref b287), (.ref b287), (.ref pp)]) (fun _ k => XS.dup X384.here hx rfl (hb hby o_d3_68) rfl rfl k) ?_
 refine o_q T384 (o_f10 m 70 pp (16 : Int32) [(.int (3 : Int32)), (.ref b287), (.ref b287), (.ref pp)]) (fun _ k => XS.iconst X384.here hx rfl (hb hby o_d3_69) k) ?_
 refine o_q T384 (o_f10 m 71 pp (16 : Int32) [(.long (0 : Int64)), (.int (3 : Int32)), (.ref b287), (.ref b287), (.ref pp)]) (fun _ k => XS.lconst X384.here hx rfl (hb hby o_d3_70) k) ?_
 have hin414 : ¬ ((3 : Int32) < (0 : Int32)) ∧ (3 : Int32) < (4 : Int32) := by
  have k1 : (3 : Int32).toInt = 3 := by decide
  have k2 : (4 : Int32).toInt = 4 := by decide
  have k3 : (0 : Int32).toInt = 0 := by decide
  rw [Int32.lt_iff_toInt_lt, Int32.lt_iff_toInt_lt]
  omega
 obtain ⟨T415, h415, X415, e415, W415, A415, st415⟩ := o_stJ X384 hx hZ e384 A384 hin414 (g := (o_f10 m 71 pp (16 : Int32) [(.long (0 : Int64)), (.int (3 : Int32)), (.ref b287), (.ref b287), (.ref pp)])) rfl rfl (hb hby o_d3_71)
 obtain ⟨f415, d_f415⟩ : ∃ z : Nat → Int64, z = (fun i => if i = (3 : Int32).toNatClampNeg then (0 : Int64) else f384 i) := ⟨_, rfl⟩
 rw [← d_f415] at A415
 have N_415 := Fr.snoc X415 N_384 g_b287
 have Y416 := Y385.wr W415
 have Y417 := Y386.wr W415
 have Y418 := Y387.wr W415
 have Y419 := Y388.wr W415
 have Y420 := Y389.other W415 (Or.inl ne288)
 have Y421 := Y390.other W415 (Or.inl ne288)
 have Y422 := Y391.other W415 (Or.inl ne288)
 have Y423 := Y392.other W415 (Or.inl ne288)
 have Y424 := Y393.other W415 (Or.inl ne288)
 have Y425 := Y394.other W415 (Or.inl ne288)
 have Y426 := Y395.other W415 (Or.inl ne288)
 have Y427 := Y396.other W415 (Or.inl ne288)
 have Y428 := Y397.other W415 (Or.inl ne288)
 have Y429 := Y398.other W415 (Or.inl ne288)
 have Y430 := Y399.other W415 (Or.inl ne288)
 have Y431 := Y400.other W415 (Or.inl ne288)
 have Y432 := Y401.other W415 (Or.inl ne288)
 have Y433 := Y402.other W415 (Or.inl ne288)
 have Y434 := Y403.other W415 (Or.inl ne288)
 have Y435 := Y404.other W415 (Or.inl ne288)
 have Y436 := Y405.wr W415
 have Y437 := Y406.other W415 (Or.inl ne290)
 have Y438 := Y407.other W415 (Or.inl ne290)
 have Y439 := Y408.other W415 (Or.inl ne290)
 have Y440 := Y409.other W415 (Or.inl ne290)
 have Y441 := Y410.other W415 (Or.inl ne290)
 have Y442 := Y411.other W415 ne291
 have Y443 := Y412.other W415 ne292
 refine o_q T415 (o_f10 m 72 pp (16 : Int32) [(.ref b287), (.ref pp)]) st415 ?_
 obtain ⟨T445, h445, X445, e445, W445, st445⟩ := putF X415 hx hZ hown (host := "") (Or.inl (o_m hw 43 rfl)) Via.refl e415 Y426 Y418 (Or.inl (o_m hw 44 rfl)) (o_m hw 8 rfl) (ty := (.array .long)) (by decide) rfl rfl (g := (o_f10 m 72 pp (16 : Int32) [(.ref b287), (.ref pp)])) rfl rfl (hb hby o_d3_72)
 have Fw445 := Y426.same W445
 have N_445 := Fr.snoc X445 N_415 gp0
 have Y446 := Y416.wr W445
 have Y447 := Y417.wr W445
 have Y448 := Y418.wr W445
 have Y449 := Y419.wr W445
 have Y450 := Y420.other W445 (o_sn (Or.inr (o_m hw 26 rfl)) (Or.inl (o_m hw 44 rfl)))
 have Y451 := Y421.other W445 (o_sn (Or.inl (o_m hw 29 rfl)) (Or.inl (o_m hw 44 rfl)))
 have Y452 := Y422.other W445 (o_sn (Or.inl (o_m hw 33 rfl)) (Or.inl (o_m hw 44 rfl)))
 have Y453 := Y423.other W445 (o_sn (Or.inr (o_m hw 35 rfl)) (Or.inl (o_m hw 44 rfl)))
 have Y454 := Y424.other W445 (o_sn (Or.inl (o_m hw 39 rfl)) (Or.inl (o_m hw 44 rfl)))
 have Y455 := Y425.other W445 (o_sn (Or.inr (o_m hw 41 rfl)) (Or.inl (o_m hw 44 rfl)))
 have Y457 := Y427.other W445 (o_sn (Or.inl (o_m hw 47 rfl)) (Or.inl (o_m hw 44 rfl)))
 have Y458 := Y428.other W445 (o_sn (Or.inl (o_m hw 49 rfl)) (Or.inl (o_m hw 44 rfl)))
 have Y459 := Y429.other W445 (o_sn (Or.inl (o_m hw 64 rfl)) (Or.inl (o_m hw 44 rfl)))
 have Y460 := Y430.other W445 (o_sn (Or.inl (o_m hw 66 rfl)) (Or.inl (o_m hw 44 rfl)))
 have Y461 := Y431.other W445 (o_sn (Or.inl (o_m hw 78 rfl)) (Or.inl (o_m hw 44 rfl)))
 have Y462 := Y432.other W445 (o_sn (Or.inl (o_m hw 93 rfl)) (Or.inl (o_m hw 44 rfl)))
 have Y463 := Y433.other W445 (o_sn (Or.inl (o_m hw 106 rfl)) (Or.inl (o_m hw 44 rfl)))
 have Y464 := Y434.other W445 (o_sn (Or.inl (o_m hw 132 rfl)) (Or.inl (o_m hw 44 rfl)))
 have Y465 := Y435.other W445 (o_sn (Or.inl (o_m hw 166 rfl)) (Or.inl (o_m hw 44 rfl)))
 have Y466 := Y436.wr W445
 have Y467 := Y437.other W445 (Or.inl (Ne.symm ne4))
 have Y468 := Y438.other W445 (Or.inl (Ne.symm ne4))
 have Y469 := Y439.other W445 (Or.inl (Ne.symm ne4))
 have Y470 := Y440.other W445 (Or.inl (Ne.symm ne4))
 have Y471 := Y441.other W445 (Or.inl (Ne.symm ne4))
 have Y472 := Y442.other W445 (Ne.symm ne81)
 have Y473 := Y443.other W445 (Ne.symm ne168)
 have Y474 := A415.other W445 (Ne.symm ne288)
 refine o_q T445 (o_f10 m 75 pp (16 : Int32) []) st445 ?_
 refine o_q T445 (o_f10 m 76 pp (16 : Int32) [(.ref pp)]) (fun _ k => XS.aloadN X445.here hx rfl (hb hby o_d3_75) rfl rfl k) ?_
 refine o_q T445 (o_f10 m 77 pp (16 : Int32) [(.int (4 : Int32)), (.ref pp)]) (fun _ k => XS.iconst X445.here hx rfl (hb hby o_d3_76) k) ?_
 obtain ⟨T475, h475, k475, X475, e475, E475, A475, st475⟩ := newP X445 hx hZ (o_m hw 45 rfl) e445 (g := (o_f10 m 77 pp (16 : Int32) [(.int (4 : Int32)), (.ref pp)])) rfl (hb hby o_d3_77) rfl (by decide) (cap := 4) (by decide) (by decide) (by decide) (by decide)
 obtain ⟨b475, g475⟩ : ∃ z, z = h445.size := ⟨_, rfl⟩
 rw [← g475] at A475 st475
 have ne476 : o_ne pp b475 := Nat.ne_of_lt (Nat.lt_of_lt_of_le Y448.lt (Nat.le_of_eq g475.symm))
 have ne477 : o_ne wa b475 := Nat.ne_of_lt (Nat.lt_of_lt_of_le Y449.lt (Nat.le_of_eq g475.symm))
 have ne478 : o_ne b3 b475 := Nat.ne_of_lt (Nat.lt_of_lt_of_le Y466.lt (Nat.le_of_eq g475.symm))
 have ne479 : o_ne b80 b475 := Nat.ne_of_lt (Nat.lt_of_lt_of_le Y472.lt (Nat.le_of_eq g475.symm))
 have ne480 : o_ne b167 b475 := Nat.ne_of_lt (Nat.lt_of_lt_of_le Y473.lt (Nat.le_of_eq g475.symm))
 have ne481 : o_ne b287 b475 := Nat.ne_of_lt (Nat.lt_of_lt_of_le Y474.lt (Nat.le_of_eq g475.symm))
 have g_b475 : n0 ≤ b475 := Nat.le_trans (Nat.le_of_lt (Nat.lt_of_le_of_lt gp0 Y448.lt)) (Nat.le_of_eq g475.symm)
 have V475 : o_IA Z h475 b475 (4 : Int32) (fun _ => 0) := o_new0 A475 (by decide) rfl
 obtain ⟨f475, d_f475⟩ : ∃ z : Nat → Int32, z = (fun _ => 0) := ⟨_, rfl⟩
 rw [← d_f475] at V475
 have Y482 := Y446.ext E475
 have Y483 := Y447.ext E475
 have Y484 := Y448.ext E475
 have Y485 := Y449.ext E475
 have Y486 := Y450.ext E475
 have Y487 := Y451.ext E475
 have Y488 := Y452.ext E475
 have Y489 := Y453.ext E475
 have Y490 := Y454.ext E475
 have Y491 := Y455.ext E475
 have Y492 := Fw445.ext E475
 have Y493 := Y457.ext E475
 have Y494 := Y458.ext E475
 have Y495 := Y459.ext E475
 have Y496 := Y460.ext E475
 have Y497 := Y461.ext E475
 have Y498 := Y462.ext E475
 have Y499 := Y463.ext E475
 have Y500 := Y464.ext E475
 have Y501 := Y465.ext E475
 have Y502 := Y466.ext E475
 have Y503 := Y467.ext E475
 have Y504 := Y468.ext E475
 have Y505 := Y469.ext E475
 have Y506 := Y470.ext E475
 have Y507 := Y471.ext E475
 have Y508 := Y472.ext E475
 have Y509 := Y473.ext E475
 have Y510 := Y474.ext E475
 refine o_q T475 (o_f10 m 79 pp (16 : Int32) [(.ref b475), (.ref pp)]) st475 ?_
 refine o_q T475 (o_f10 m 80 pp (16 : Int32) [(.ref b475), (.ref b475), (.ref pp)]) (fun _ k => XS.dup X475.here hx rfl (hb hby o_d3_79) rfl rfl k) ?_
 refine o_q T475 (o_f10 m 81 pp (16 : Int32) [(.int (0 : Int32)), (.ref b475), (.ref b475), (.ref pp)]) (fun _ k => XS.iconst X475.here hx rfl (hb hby o_d3_80) k) ?_
 refine o_q T475 (o_f10 m 82 pp (16 : Int32) [(.int (16 : Int32)), (.int (0 : Int32)), (.ref b475), (.ref b475), (.ref pp)]) (fun _ k => XS.iloadN X475.here hx rfl (hb hby o_d3_81) rfl k) ?_
 have hin511 : ¬ ((0 : Int32) < (0 : Int32)) ∧ (0 : Int32) < (4 : Int32) := by
  have k1 : (0 : Int32).toInt = 0 := by decide
  have k2 : (4 : Int32).toInt = 4 := by decide
  rw [Int32.lt_iff_toInt_lt, Int32.lt_iff_toInt_lt]
  omega
 obtain ⟨T512, h512, X512, e512, W512, A512, st512⟩ := o_stI X475 hx hZ e475 V475 hin511 (g := (o_f10 m 82 pp (16 : Int32) [(.int (16 : Int32)), (.int (0 : Int32)), (.ref b475), (.ref b475), (.ref pp)])) rfl rfl (hb hby o_d3_82)
 obtain ⟨f512, d_f512⟩ : ∃ z : Nat → Int32, z = (fun i => if i = (0 : Int32).toNatClampNeg then (16 : Int32) else f475 i) := ⟨_, rfl⟩
 rw [← d_f512] at A512
 have N_512 := Fr.snoc X512 N_445 g_b475
 have Y513 := Y482.wr W512
 have Y514 := Y483.wr W512
 have Y515 := Y484.wr W512
 have Y516 := Y485.wr W512
 have Y517 := Y486.other W512 (Or.inl ne476)
 have Y518 := Y487.other W512 (Or.inl ne476)
 have Y519 := Y488.other W512 (Or.inl ne476)
 have Y520 := Y489.other W512 (Or.inl ne476)
 have Y521 := Y490.other W512 (Or.inl ne476)
 have Y522 := Y491.other W512 (Or.inl ne476)
 have Y523 := Y492.other W512 (Or.inl ne476)
 have Y524 := Y493.other W512 (Or.inl ne476)
 have Y525 := Y494.other W512 (Or.inl ne476)
 have Y526 := Y495.other W512 (Or.inl ne476)
 have Y527 := Y496.other W512 (Or.inl ne476)
 have Y528 := Y497.other W512 (Or.inl ne476)
 have Y529 := Y498.other W512 (Or.inl ne476)
 have Y530 := Y499.other W512 (Or.inl ne476)
 have Y531 := Y500.other W512 (Or.inl ne476)
 have Y532 := Y501.other W512 (Or.inl ne476)
 have Y533 := Y502.wr W512
 have Y534 := Y503.other W512 (Or.inl ne478)
 have Y535 := Y504.other W512 (Or.inl ne478)
 have Y536 := Y505.other W512 (Or.inl ne478)
 have Y537 := Y506.other W512 (Or.inl ne478)
 have Y538 := Y507.other W512 (Or.inl ne478)
 have Y539 := Y508.other W512 ne479
 have Y540 := Y509.other W512 ne480
 have Y541 := Y510.other W512 ne481
 refine o_q T512 (o_f10 m 83 pp (16 : Int32) [(.ref b475), (.ref pp)]) st512 ?_
 refine o_q T512 (o_f10 m 84 pp (16 : Int32) [(.ref b475), (.ref b475), (.ref pp)]) (fun _ k => XS.dup X512.here hx rfl (hb hby o_d3_83) rfl rfl k) ?_
 refine o_q T512 (o_f10 m 85 pp (16 : Int32) [(.int (1 : Int32)), (.ref b475), (.ref b475), (.ref pp)]) (fun _ k => XS.iconst X512.here hx rfl (hb hby o_d3_84) k) ?_
 refine o_q T512 (o_f10 m 86 pp (16 : Int32) [(.int (0 : Int32)), (.int (1 : Int32)), (.ref b475), (.ref b475), (.ref pp)]) (fun _ k => XS.iconst X512.here hx rfl (hb hby o_d3_85) k) ?_
 have hin543 : ¬ ((1 : Int32) < (0 : Int32)) ∧ (1 : Int32) < (4 : Int32) := by
  have k1 : (1 : Int32).toInt = 1 := by decide
  have k2 : (4 : Int32).toInt = 4 := by decide
  have k3 : (0 : Int32).toInt = 0 := by decide
  rw [Int32.lt_iff_toInt_lt, Int32.lt_iff_toInt_lt]
  omega
 obtain ⟨T544, h544, X544, e544, W544, A544, st544⟩ := o_stI X512 hx hZ e512 A512 hin543 (g := (o_f10 m 86 pp (16 : Int32) [(.int (0 : Int32)), (.int (1 : Int32)), (.ref b475), (.ref b475), (.ref pp)])) rfl rfl (hb hby o_d3_86)
 obtain ⟨f544, d_f544⟩ : ∃ z : Nat → Int32, z = (fun i => if i = (1 : Int32).toNatClampNeg then (0 : Int32) else f512 i) := ⟨_, rfl⟩
 rw [← d_f544] at A544
 have N_544 := Fr.snoc X544 N_512 g_b475
 have Y545 := Y513.wr W544
 have Y546 := Y514.wr W544
 have Y547 := Y515.wr W544
 have Y548 := Y516.wr W544
 have Y549 := Y517.other W544 (Or.inl ne476)
 have Y550 := Y518.other W544 (Or.inl ne476)
 have Y551 := Y519.other W544 (Or.inl ne476)
 have Y552 := Y520.other W544 (Or.inl ne476)
 have Y553 := Y521.other W544 (Or.inl ne476)
 have Y554 := Y522.other W544 (Or.inl ne476)
 have Y555 := Y523.other W544 (Or.inl ne476)
 have Y556 := Y524.other W544 (Or.inl ne476)
 have Y557 := Y525.other W544 (Or.inl ne476)
 have Y558 := Y526.other W544 (Or.inl ne476)
 have Y559 := Y527.other W544 (Or.inl ne476)
 have Y560 := Y528.other W544 (Or.inl ne476)
 have Y561 := Y529.other W544 (Or.inl ne476)
 have Y562 := Y530.other W544 (Or.inl ne476)
 have Y563 := Y531.other W544 (Or.inl ne476)
 have Y564 := Y532.other W544 (Or.inl ne476)
 have Y565 := Y533.wr W544
 have Y566 := Y534.other W544 (Or.inl ne478)
 have Y567 := Y535.other W544 (Or.inl ne478)
 have Y568 := Y536.other W544 (Or.inl ne478)
 have Y569 := Y537.other W544 (Or.inl ne478)
 have Y570 := Y538.other W544 (Or.inl ne478)
 have Y571 := Y539.other W544 ne479
 have Y572 := Y540.other W544 ne480
 have Y573 := Y541.other W544 ne481
 refine o_q T544 (o_f10 m 87 pp (16 : Int32) [(.ref b475), (.ref pp)]) st544 ?_
 refine o_q T544 (o_f10 m 88 pp (16 : Int32) [(.ref b475), (.ref b475), (.ref pp)]) (fun _ k => XS.dup X544.here hx rfl (hb hby o_d3_87) rfl rfl k) ?_
 refine o_q T544 (o_f10 m 89 pp (16 : Int32) [(.int (2 : Int32)), (.ref b475), (.ref b475), (.ref pp)]) (fun _ k => XS.iconst X544.here hx rfl (hb hby o_d3_88) k) ?_
 refine o_q T544 (o_f10 m 90 pp (16 : Int32) [(.int (0 : Int32)), (.int (2 : Int32)), (.ref b475), (.ref b475), (.ref pp)]) (fun _ k => XS.iconst X544.here hx rfl (hb hby o_d3_89) k) ?_
 have hin575 : ¬ ((2 : Int32) < (0 : Int32)) ∧ (2 : Int32) < (4 : Int32) := by
  have k1 : (2 : Int32).toInt = 2 := by decide
  have k2 : (4 : Int32).toInt = 4 := by decide
  have k3 : (0 : Int32).toInt = 0 := by decide
  rw [Int32.lt_iff_toInt_lt, Int32.lt_iff_toInt_lt]
  omega
 obtain ⟨T576, h576, X576, e576, W576, A576, st576⟩ := o_stI X544 hx hZ e544 A544 hin575 (g := (o_f10 m 90 pp (16 : Int32) [(.int (0 : Int32)), (.int (2 : Int32)), (.ref b475), (.ref b475), (.ref pp)])) rfl rfl (hb hby o_d3_90)
 obtain ⟨f576, d_f576⟩ : ∃ z : Nat → Int32, z = (fun i => if i = (2 : Int32).toNatClampNeg then (0 : Int32) else f544 i) := ⟨_, rfl⟩
 rw [← d_f576] at A576
 have N_576 := Fr.snoc X576 N_544 g_b475
 have Y577 := Y545.wr W576
 have Y578 := Y546.wr W576
 have Y579 := Y547.wr W576
 have Y580 := Y548.wr W576
 have Y581 := Y549.other W576 (Or.inl ne476)
 have Y582 := Y550.other W576 (Or.inl ne476)
 have Y583 := Y551.other W576 (Or.inl ne476)
 have Y584 := Y552.other W576 (Or.inl ne476)
 have Y585 := Y553.other W576 (Or.inl ne476)
 have Y586 := Y554.other W576 (Or.inl ne476)
 have Y587 := Y555.other W576 (Or.inl ne476)
 have Y588 := Y556.other W576 (Or.inl ne476)
 have Y589 := Y557.other W576 (Or.inl ne476)
 have Y590 := Y558.other W576 (Or.inl ne476)
 have Y591 := Y559.other W576 (Or.inl ne476)
 have Y592 := Y560.other W576 (Or.inl ne476)
 have Y593 := Y561.other W576 (Or.inl ne476)
 have Y594 := Y562.other W576 (Or.inl ne476)
 have Y595 := Y563.other W576 (Or.inl ne476)
 have Y596 := Y564.other W576 (Or.inl ne476)
 have Y597 := Y565.wr W576
 have Y598 := Y566.other W576 (Or.inl ne478)
 have Y599 := Y567.other W576 (Or.inl ne478)
 have Y600 := Y568.other W576 (Or.inl ne478)
 have Y601 := Y569.other W576 (Or.inl ne478)
 have Y602 := Y570.other W576 (Or.inl ne478)
 have Y603 := Y571.other W576 ne479
 have Y604 := Y572.other W576 ne480
 have Y605 := Y573.other W576 ne481
 refine o_q T576 (o_f10 m 91 pp (16 : Int32) [(.ref b475), (.ref pp)]) st576 ?_
 refine o_q T576 (o_f10 m 92 pp (16 : Int32) [(.ref b475), (.ref b475), (.ref pp)]) (fun _ k => XS.dup X576.here hx rfl (hb hby o_d3_91) rfl rfl k) ?_
 refine o_q T576 (o_f10 m 93 pp (16 : Int32) [(.int (3 : Int32)), (.ref b475), (.ref b475), (.ref pp)]) (fun _ k => XS.iconst X576.here hx rfl (hb hby o_d3_92) k) ?_
 refine o_q T576 (o_f10 m 94 pp (16 : Int32) [(.int (0 : Int32)), (.int (3 : Int32)), (.ref b475), (.ref b475), (.ref pp)]) (fun _ k => XS.iconst X576.here hx rfl (hb hby o_d3_93) k) ?_
 have hin607 : ¬ ((3 : Int32) < (0 : Int32)) ∧ (3 : Int32) < (4 : Int32) := by
  have k1 : (3 : Int32).toInt = 3 := by decide
  have k2 : (4 : Int32).toInt = 4 := by decide
  have k3 : (0 : Int32).toInt = 0 := by decide
  rw [Int32.lt_iff_toInt_lt, Int32.lt_iff_toInt_lt]
  omega
 obtain ⟨T608, h608, X608, e608, W608, A608, st608⟩ := o_stI X576 hx hZ e576 A576 hin607 (g := (o_f10 m 94 pp (16 : Int32) [(.int (0 : Int32)), (.int (3 : Int32)), (.ref b475), (.ref b475), (.ref pp)])) rfl rfl (hb hby o_d3_94)
 obtain ⟨f608, d_f608⟩ : ∃ z : Nat → Int32, z = (fun i => if i = (3 : Int32).toNatClampNeg then (0 : Int32) else f576 i) := ⟨_, rfl⟩
 rw [← d_f608] at A608
 have N_608 := Fr.snoc X608 N_576 g_b475
 have Y609 := Y577.wr W608
 have Y610 := Y578.wr W608
 have Y611 := Y579.wr W608
 have Y612 := Y580.wr W608
 have Y613 := Y581.other W608 (Or.inl ne476)
 have Y614 := Y582.other W608 (Or.inl ne476)
 have Y615 := Y583.other W608 (Or.inl ne476)
 have Y616 := Y584.other W608 (Or.inl ne476)
 have Y617 := Y585.other W608 (Or.inl ne476)
 have Y618 := Y586.other W608 (Or.inl ne476)
 have Y619 := Y587.other W608 (Or.inl ne476)
 have Y620 := Y588.other W608 (Or.inl ne476)
 have Y621 := Y589.other W608 (Or.inl ne476)
 have Y622 := Y590.other W608 (Or.inl ne476)
 have Y623 := Y591.other W608 (Or.inl ne476)
 have Y624 := Y592.other W608 (Or.inl ne476)
 have Y625 := Y593.other W608 (Or.inl ne476)
 have Y626 := Y594.other W608 (Or.inl ne476)
 have Y627 := Y595.other W608 (Or.inl ne476)
 have Y628 := Y596.other W608 (Or.inl ne476)
 have Y629 := Y597.wr W608
 have Y630 := Y598.other W608 (Or.inl ne478)
 have Y631 := Y599.other W608 (Or.inl ne478)
 have Y632 := Y600.other W608 (Or.inl ne478)
 have Y633 := Y601.other W608 (Or.inl ne478)
 have Y634 := Y602.other W608 (Or.inl ne478)
 have Y635 := Y603.other W608 ne479
 have Y636 := Y604.other W608 ne480
 have Y637 := Y605.other W608 ne481
 refine o_q T608 (o_f10 m 95 pp (16 : Int32) [(.ref b475), (.ref pp)]) st608 ?_
 obtain ⟨T639, h639, X639, e639, W639, st639⟩ := putF X608 hx hZ hown (host := "") (Or.inl (o_m hw 46 rfl)) Via.refl e608 Y620 Y611 (Or.inl (o_m hw 47 rfl)) (o_m hw 8 rfl) (ty := (.array .int)) (by decide) rfl rfl (g := (o_f10 m 95 pp (16 : Int32) [(.ref b475), (.ref pp)])) rfl rfl (hb hby o_d3_95)
 have Fw639 := Y620.same W639
 have N_639 := Fr.snoc X639 N_608 gp0
 have Y640 := Y609.wr W639
 have Y641 := Y610.wr W639
 have Y642 := Y611.wr W639
 have Y643 := Y612.wr W639
 have Y644 := Y613.other W639 (o_sn (Or.inr (o_m hw 26 rfl)) (Or.inl (o_m hw 47 rfl)))
 have Y645 := Y614.other W639 (o_sn (Or.inl (o_m hw 29 rfl)) (Or.inl (o_m hw 47 rfl)))
 have Y646 := Y615.other W639 (o_sn (Or.inl (o_m hw 33 rfl)) (Or.inl (o_m hw 47 rfl)))
 have Y647 := Y616.other W639 (o_sn (Or.inr (o_m hw 35 rfl)) (Or.inl (o_m hw 47 rfl)))
 have Y648 := Y617.other W639 (o_sn (Or.inl (o_m hw 39 rfl)) (Or.inl (o_m hw 47 rfl)))
 have Y649 := Y618.other W639 (o_sn (Or.inr (o_m hw 41 rfl)) (Or.inl (o_m hw 47 rfl)))
 have Y650 := Y619.other W639 (o_sn (Or.inl (o_m hw 44 rfl)) (Or.inl (o_m hw 47 rfl)))
 have Y652 := Y621.other W639 (o_sn (Or.inl (o_m hw 49 rfl)) (Or.inl (o_m hw 47 rfl)))
 have Y653 := Y622.other W639 (o_sn (Or.inl (o_m hw 64 rfl)) (Or.inl (o_m hw 47 rfl)))
 have Y654 := Y623.other W639 (o_sn (Or.inl (o_m hw 66 rfl)) (Or.inl (o_m hw 47 rfl)))
 have Y655 := Y624.other W639 (o_sn (Or.inl (o_m hw 78 rfl)) (Or.inl (o_m hw 47 rfl)))
 have Y656 := Y625.other W639 (o_sn (Or.inl (o_m hw 93 rfl)) (Or.inl (o_m hw 47 rfl)))
 have Y657 := Y626.other W639 (o_sn (Or.inl (o_m hw 106 rfl)) (Or.inl (o_m hw 47 rfl)))
 have Y658 := Y627.other W639 (o_sn (Or.inl (o_m hw 132 rfl)) (Or.inl (o_m hw 47 rfl)))
 have Y659 := Y628.other W639 (o_sn (Or.inl (o_m hw 166 rfl)) (Or.inl (o_m hw 47 rfl)))
 have Y660 := Y629.wr W639
 have Y661 := Y630.other W639 (Or.inl (Ne.symm ne4))
 have Y662 := Y631.other W639 (Or.inl (Ne.symm ne4))
 have Y663 := Y632.other W639 (Or.inl (Ne.symm ne4))
 have Y664 := Y633.other W639 (Or.inl (Ne.symm ne4))
 have Y665 := Y634.other W639 (Or.inl (Ne.symm ne4))
 have Y666 := Y635.other W639 (Ne.symm ne81)
 have Y667 := Y636.other W639 (Ne.symm ne168)
 have Y668 := Y637.other W639 (Ne.symm ne288)
 have Y669 := A608.other W639 (Ne.symm ne476)
 refine o_q T639 (o_f10 m 98 pp (16 : Int32) []) st639 ?_
 refine o_q T639 (o_f10 m 99 pp (16 : Int32) [(.ref pp)]) (fun _ k => XS.aloadN X639.here hx rfl (hb hby o_d3_98) rfl rfl k) ?_
 refine o_q T639 (o_f10 m 100 pp (16 : Int32) [(.int (1 : Int32)), (.ref pp)]) (fun _ k => XS.iconst X639.here hx rfl (hb hby o_d3_99) k) ?_
 obtain ⟨T670, h670, X670, e670, W670, st670⟩ := putF X639 hx hZ hown (host := "") (Or.inl (o_m hw 48 rfl)) Via.refl e639 Y652 Y642 (Or.inl (o_m hw 49 rfl)) (o_m hw 8 rfl) (ty := .int) (by decide) rfl rfl (g := (o_f10 m 100 pp (16 : Int32) [(.int (1 : Int32)), (.ref pp)])) rfl rfl (hb hby o_d3_100)
 have Fw670 := Y652.same W670
 have N_670 := Fr.snoc X670 N_639 gp0
 have Y671 := Y640.wr W670
 have Y672 := Y641.wr W670
 have Y673 := Y642.wr W670
 have Y674 := Y643.wr W670
 have Y675 := Y644.other W670 (o_sn (Or.inr (o_m hw 26 rfl)) (Or.inl (o_m hw 49 rfl)))
 have Y676 := Y645.other W670 (o_sn (Or.inl (o_m hw 29 rfl)) (Or.inl (o_m hw 49 rfl)))
 have Y677 := Y646.other W670 (o_sn (Or.inl (o_m hw 33 rfl)) (Or.inl (o_m hw 49 rfl)))
 have Y678 := Y647.other W670 (o_sn (Or.inr (o_m hw 35 rfl)) (Or.inl (o_m hw 49 rfl)))
 have Y679 := Y648.other W670 (o_sn (Or.inl (o_m hw 39 rfl)) (Or.inl (o_m hw 49 rfl)))
 have Y680 := Y649.other W670 (o_sn (Or.inr (o_m hw 41 rfl)) (Or.inl (o_m hw 49 rfl)))
 have Y681 := Y650.other W670 (o_sn (Or.inl (o_m hw 44 rfl)) (Or.inl (o_m hw 49 rfl)))
 have Y682 := Fw639.other W670 (o_sn (Or.inl (o_m hw 47 rfl)) (Or.inl (o_m hw 49 rfl)))
 have Y684 := Y653.other W670 (o_sn (Or.inl (o_m hw 64 rfl)) (Or.inl (o_m hw 49 rfl)))
 have Y685 := Y654.other W670 (o_sn (Or.inl (o_m hw 66 rfl)) (Or.inl (o_m hw 49 rfl)))
 have Y686 := Y655.other W670 (o_sn (Or.inl (o_m hw 78 rfl)) (Or.inl (o_m hw 49 rfl)))
 have Y687 := Y656.other W670 (o_sn (Or.inl (o_m hw 93 rfl)) (Or.inl (o_m hw 49 rfl)))
 have Y688 := Y657.other W670 (o_sn (Or.inl (o_m hw 106 rfl)) (Or.inl (o_m hw 49 rfl)))
 have Y689 := Y658.other W670 (o_sn (Or.inl (o_m hw 132 rfl)) (Or.inl (o_m hw 49 rfl)))
 have Y690 := Y659.other W670 (o_sn (Or.inl (o_m hw 166 rfl)) (Or.inl (o_m hw 49 rfl)))
 have Y691 := Y660.wr W670
 have Y692 := Y661.other W670 (Or.inl (Ne.symm ne4))
 have Y693 := Y662.other W670 (Or.inl (Ne.symm ne4))
 have Y694 := Y663.other W670 (Or.inl (Ne.symm ne4))
 have Y695 := Y664.other W670 (Or.inl (Ne.symm ne4))
 have Y696 := Y665.other W670 (Or.inl (Ne.symm ne4))
 have Y697 := Y666.other W670 (Ne.symm ne81)
 have Y698 := Y667.other W670 (Ne.symm ne168)
 have Y699 := Y668.other W670 (Ne.symm ne288)
 have Y700 := Y669.other W670 (Ne.symm ne476)
 refine o_q T670 (o_f10 m 103 pp (16 : Int32) []) st670 ?_
 have hx0 : f415 0 = (-9223372036854775808 : Int64) := by simp [d_f287, d_f322, d_f353, d_f384, d_f415]
 have hf0 : (f608 0).toInt = 16 := by simp [d_f475, d_f512, d_f544, d_f576, d_f608]
 refine o_retV X670 hx hlk hret (hb hby o_d3_103) ?_ (o_b rfl) (o_b rfl)
 rw [e670]
 subst d_f167
 exact ⟨b167, b3, b287, b475, f415, f608, rfl, N_670, ⟨Y673, Y691, Y674, Y680, Y681, Y682, Y687, Fw670, Y688, Y675, Y684, Y679, Y685, Y686, Y689, Y690, Y678, Y693, Y699, Y700, Y698, (Ne.symm ne292), wl, gp0, g_b287, g_b475, g_b167, g_b3⟩, hx0, hf0⟩
def o_w10 (nn sn : Int32) (x0 x1 y0 y1 frmL toL : Int64) : Int32 := 0
def o_w9 (nn sn : Int32) (x0 x1 y0 y1 frmL toL : Int64) : Int32 := if (sn < (9 : Int32) ∧ ¬ nn < (9 : Int32)) ∧ ((5 : Int64) < toL ∧ frmL < (6 : Int64)) then 1 else o_w10 nn sn x0 x1 y0 y1 frmL toL
def o_w8 (nn sn : Int32) (x0 x1 y0 y1 frmL toL : Int64) : Int32 := if (sn < (8 : Int32) ∧ ¬ nn < (8 : Int32)) ∧ ((-200 : Int64) < toL ∧ frmL < (-100 : Int64)) then 1 else o_w9 nn sn x0 x1 y0 y1 frmL toL
def o_w7 (nn sn : Int32) (x0 x1 y0 y1 frmL toL : Int64) : Int32 := if (sn < (7 : Int32) ∧ ¬ nn < (7 : Int32)) ∧ ((100 : Int64) < toL ∧ frmL < (200 : Int64)) then 1 else o_w8 nn sn x0 x1 y0 y1 frmL toL
def o_w6 (nn sn : Int32) (x0 x1 y0 y1 frmL toL : Int64) : Int32 := if (sn < (6 : Int32) ∧ ¬ nn < (6 : Int32)) ∧ ((-10 : Int64) < toL ∧ frmL < (10 : Int64)) then 1 else o_w7 nn sn x0 x1 y0 y1 frmL toL
def o_w5 (nn sn : Int32) (x0 x1 y0 y1 frmL toL : Int64) : Int32 := if (sn < (5 : Int32) ∧ ¬ nn < (5 : Int32)) ∧ ((9223372036854775806 : Int64) < toL ∧ frmL < (9223372036854775807 : Int64)) then 1 else o_w6 nn sn x0 x1 y0 y1 frmL toL
def o_w4 (nn sn : Int32) (x0 x1 y0 y1 frmL toL : Int64) : Int32 := if (sn < (4 : Int32) ∧ ¬ nn < (4 : Int32)) ∧ ((-9223372036854775808 : Int64) < toL ∧ frmL < (-9223372036854775807 : Int64)) then 1 else o_w5 nn sn x0 x1 y0 y1 frmL toL
def o_w3 (nn sn : Int32) (x0 x1 y0 y1 frmL toL : Int64) : Int32 := if (sn < (3 : Int32) ∧ ¬ nn < (3 : Int32)) ∧ ((0 : Int64) < toL ∧ frmL < (1 : Int64)) then 1 else o_w4 nn sn x0 x1 y0 y1 frmL toL
def o_w2 (nn sn : Int32) (x0 x1 y0 y1 frmL toL : Int64) : Int32 := if (sn < (2 : Int32) ∧ ¬ nn < (2 : Int32)) ∧ (y0 < toL ∧ frmL < y1) then 1 else o_w3 nn sn x0 x1 y0 y1 frmL toL
def o_w1 (nn sn : Int32) (x0 x1 y0 y1 frmL toL : Int64) : Int32 := if (sn < (1 : Int32) ∧ ¬ nn < (1 : Int32)) ∧ (x0 < toL ∧ frmL < x1) then 1 else o_w2 nn sn x0 x1 y0 y1 frmL toL
def o_w0 (nn sn : Int32) (x0 x1 y0 y1 frmL toL : Int64) : Int32 := if (8 : Int32) < (nn - sn) then 1 else o_w1 nn sn x0 x1 y0 y1 frmL toL
theorem o_d20_0 : decode method_3_code 0 = .ok (.iload_n 0, 1) := by decide +kernel
theorem o_d20_1 : decode method_3_code 1 = .ok (.iload_n 2, 1) := by decide +kernel
theorem o_d20_2 : decode method_3_code 2 = .ok (.if_icmp .ge 12, 3) := by decide +kernel
theorem o_d20_5 : decode method_3_code 5 = .ok (.iload_n 2, 1) := by decide +kernel
theorem o_d20_6 : decode method_3_code 6 = .ok (.iload_n 1, 1) := by decide +kernel
theorem o_d20_7 : decode method_3_code 7 = .ok (.if_icmp .gt 7, 3) := by decide +kernel
theorem o_d20_14 : decode method_3_code 14 = .ok (.iconst 0, 1) := by decide +kernel
theorem o_d20_15 : decode method_3_code 15 = .ok (.ireturn, 1) := by decide +kernel
theorem o_d20_10 : decode method_3_code 10 = .ok (.iconst 1, 1) := by decide +kernel
theorem o_d20_11 : decode method_3_code 11 = .ok (.goto 4, 3) := by decide +kernel
theorem o_pn20 : plainFor (⟨o_n5, "after", "(III)Z"⟩ : MethodName) = true := plainFor_of_name (by first | (simp [plainName, overriddenIn]; done) | decide +kernel)
set_option maxRecDepth 65536 in
set_option maxHeartbeats 40000000 in
theorem o_after (l : Launch) (Z : State) (a0 : Array Value) (hw : ∀ d ∈ tables_1, d.before a0 Z = true) (w0 : Int32) (w1 : Int32) (w2 : Int32) (h0 : Heap)  :
  o_C l (⟨o_n5, "after", "(III)Z"⟩ : MethodName) method_3_code 3 (some .boolean) (o_R 0 0 0 0) Z h0 #[(.int w0), (.int w1), (.int w2)] (o_P (some (.int (if w0 < w2 ∧ ¬ w1 < w2 then (1 : Int32) else 0))) h0) := by
 refine o_body o_pn20 ?_
 intro p e s m below meth c s₁ hx hby hml hZ hown hnm hret hlk X0 e0
 refine o_cast (f' := (o_f29 m 0 w0 w1 w2 [])) (by first | (simp [entryFrame, mkF, argsToLocals, Value.category, maxLocals]; done) | rfl) ?_
 refine o_q s₁ (o_f29 m 1 w0 w1 w2 [(.int w0)]) (fun _ k => XS.iloadN X0.here hx rfl (hb hby o_d20_0) rfl k) ?_
 refine o_q s₁ (o_f29 m 2 w0 w1 w2 [(.int w2), (.int w0)]) (fun _ k => XS.iloadN X0.here hx rfl (hb hby o_d20_1) rfl k) ?_
 by_cases c0 : w0 < w2
 ·refine o_q s₁ (o_f29 m 5 w0 w1 w2 []) (fun _ k => XS.icmpNo X0.here hx rfl (hb hby o_d20_2) rfl (tlt c0).2.1 k) ?_
  refine o_q s₁ (o_f29 m 6 w0 w1 w2 [(.int w2)]) (fun _ k => XS.iloadN X0.here hx rfl (hb hby o_d20_5) rfl k) ?_
  refine o_q s₁ (o_f29 m 7 w0 w1 w2 [(.int w1), (.int w2)]) (fun _ k => XS.iloadN X0.here hx rfl (hb hby o_d20_6) rfl k) ?_
  by_cases c1 : w1 < w2
  ·refine o_q s₁ (o_f29 m 14 w0 w1 w2 []) (fun _ k => XS.icmpYes X0.here hx rfl (pc0 := 7) (pc' := 14) rfl (hb hby o_d20_7) rfl (tlt c1).2.2.1 (by decide) (by decide) k) ?_
   refine o_q s₁ (o_f29 m 15 w0 w1 w2 [(.int (0 : Int32))]) (fun _ k => XS.iconst X0.here hx rfl (hb hby o_d20_14) k) ?_
   refine o_retN X0 hx hlk (t := .boolean) hret (by simp) (hb hby o_d20_15) ⟨?_, rfl, e0⟩ (by decide) (by decide)
   rw [if_neg (fun q => q.2 c1)]; rfl
  ·refine o_q s₁ (o_f29 m 10 w0 w1 w2 []) (fun _ k => XS.icmpNo X0.here hx rfl (hb hby o_d20_7) rfl (flt c1).2.2.1 k) ?_
   refine o_q s₁ (o_f29 m 11 w0 w1 w2 [(.int (1 : Int32))]) (fun _ k => XS.iconst X0.here hx rfl (hb hby o_d20_10) k) ?_
   refine o_q s₁ (o_f29 m 15 w0 w1 w2 [(.int (1 : Int32))]) (fun _ k => XS.goto X0.here hx rfl (pc0 := 11) (pc' := 15) rfl (hb hby o_d20_11) (by decide) (by decide) k) ?_
   refine o_retN X0 hx hlk (t := .boolean) hret (by simp) (hb hby o_d20_15) ⟨?_, rfl, e0⟩ (by decide) (by decide)
   rw [if_pos ⟨c0, c1⟩]; rfl
 ·refine o_q s₁ (o_f29 m 14 w0 w1 w2 []) (fun _ k => XS.icmpYes X0.here hx rfl (pc0 := 2) (pc' := 14) rfl (hb hby o_d20_2) rfl (flt c0).2.1 (by decide) (by decide) k) ?_
  refine o_q s₁ (o_f29 m 15 w0 w1 w2 [(.int (0 : Int32))]) (fun _ k => XS.iconst X0.here hx rfl (hb hby o_d20_14) k) ?_
  refine o_retN X0 hx hlk (t := .boolean) hret (by simp) (hb hby o_d20_15) ⟨?_, rfl, e0⟩ (by decide) (by decide)
  rw [if_neg (fun q => c0 q.1)]; rfl
theorem o_d21_0 : decode method_4_code 0 = .ok (.lload_n 0, 1) := by decide +kernel
theorem o_d21_1 : decode method_4_code 1 = .ok (.lload 6, 2) := by decide +kernel
theorem o_d21_3 : decode method_4_code 3 = .ok (.lcmp, 1) := by decide +kernel
theorem o_d21_4 : decode method_4_code 4 = .ok (.ifCond .ge 14, 3) := by decide +kernel
theorem o_d21_7 : decode method_4_code 7 = .ok (.lload_n 2, 1) := by decide +kernel
theorem o_d21_8 : decode method_4_code 8 = .ok (.lload 4, 2) := by decide +kernel
theorem o_d21_10 : decode method_4_code 10 = .ok (.lcmp, 1) := by decide +kernel
theorem o_d21_11 : decode method_4_code 11 = .ok (.ifCond .le 7, 3) := by decide +kernel
theorem o_d21_14 : decode method_4_code 14 = .ok (.iconst 1, 1) := by decide +kernel
theorem o_d21_15 : decode method_4_code 15 = .ok (.goto 4, 3) := by decide +kernel
theorem o_d21_19 : decode method_4_code 19 = .ok (.ireturn, 1) := by decide +kernel
theorem o_d21_18 : decode method_4_code 18 = .ok (.iconst 0, 1) := by decide +kernel
theorem o_pn21 : plainFor (⟨o_n5, "meets", "(JJJJ)Z"⟩ : MethodName) = true := plainFor_of_name (by first | (simp [plainName, overriddenIn]; done) | decide +kernel)
set_option maxRecDepth 65536 in
set_option maxHeartbeats 40000000 in
theorem o_meets (l : Launch) (Z : State) (a0 : Array Value) (hw : ∀ d ∈ tables_1, d.before a0 Z = true) (w0 : Int64) (w1 : Int64) (w2 : Int64) (w3 : Int64) (h0 : Heap)  :
  o_C l (⟨o_n5, "meets", "(JJJJ)Z"⟩ : MethodName) method_4_code 8 (some .boolean) (o_R 0 0 0 0) Z h0 #[(.long w0), (.long w1), (.long w2), (.long w3)] (o_P (some (.int (if w0 < w3 ∧ w2 < w1 then (1 : Int32) else 0))) h0) := by
 refine o_body o_pn21 ?_
 intro p e s m below meth c s₁ hx hby hml hZ hown hnm hret hlk X0 e0
 refine o_cast (f' := (o_f30 m 0 w0 w1 w2 w3 [])) (by first | (simp [entryFrame, mkF, argsToLocals, Value.category, maxLocals]; done) | rfl) ?_
 refine o_q s₁ (o_f30 m 1 w0 w1 w2 w3 [(.long w0)]) (fun _ k => XS.lloadN X0.here hx rfl (hb hby o_d21_0) rfl k) ?_
 refine o_q s₁ (o_f30 m 3 w0 w1 w2 w3 [(.long w3), (.long w0)]) (fun _ k => XS.lload X0.here hx rfl (hb hby o_d21_1) rfl k) ?_
 refine o_q s₁ (o_f30 m 4 w0 w1 w2 w3 [(.int (lcmpW w0 w3))]) (fun _ k => XS.lcmp X0.here hx rfl (hb hby o_d21_3) rfl k) ?_
 by_cases c0 : w0 < w3
 ·refine o_q s₁ (o_f30 m 7 w0 w1 w2 w3 []) (fun _ k => XS.ifNo X0.here hx rfl (hb hby o_d21_4) rfl ((if0 _ _).trans (tlt ((lw_lt _ _).mpr c0)).2.1) k) ?_
  refine o_q s₁ (o_f30 m 8 w0 w1 w2 w3 [(.long w1)]) (fun _ k => XS.lloadN X0.here hx rfl (hb hby o_d21_7) rfl k) ?_
  refine o_q s₁ (o_f30 m 10 w0 w1 w2 w3 [(.long w2), (.long w1)]) (fun _ k => XS.lload X0.here hx rfl (hb hby o_d21_8) rfl k) ?_
  refine o_q s₁ (o_f30 m 11 w0 w1 w2 w3 [(.int (lcmpW w1 w2))]) (fun _ k => XS.lcmp X0.here hx rfl (hb hby o_d21_10) rfl k) ?_
  by_cases c1 : w2 < w1
  ·refine o_q s₁ (o_f30 m 14 w0 w1 w2 w3 []) (fun _ k => XS.ifNo X0.here hx rfl (hb hby o_d21_11) rfl ((if0 _ _).trans (tlt ((lw_gt _ _).mpr c1)).2.2.2) k) ?_
   refine o_q s₁ (o_f30 m 15 w0 w1 w2 w3 [(.int (1 : Int32))]) (fun _ k => XS.iconst X0.here hx rfl (hb hby o_d21_14) k) ?_
   refine o_q s₁ (o_f30 m 19 w0 w1 w2 w3 [(.int (1 : Int32))]) (fun _ k => XS.goto X0.here hx rfl (pc0 := 15) (pc' := 19) rfl (hb hby o_d21_15) (by decide) (by decide) k) ?_
   refine o_retN X0 hx hlk (t := .boolean) hret (by simp) (hb hby o_d21_19) ⟨?_, rfl, e0⟩ (by decide) (by decide)
   rw [if_pos ⟨c0, c1⟩]; rfl
  ·refine o_q s₁ (o_f30 m 18 w0 w1 w2 w3 []) (fun _ k => XS.ifYes X0.here hx rfl (pc0 := 11) (pc' := 18) rfl (hb hby o_d21_11) rfl ((if0 _ _).trans (flt (mt (lw_gt _ _).mp c1)).2.2.2) (by decide) (by decide) k) ?_
   refine o_q s₁ (o_f30 m 19 w0 w1 w2 w3 [(.int (0 : Int32))]) (fun _ k => XS.iconst X0.here hx rfl (hb hby o_d21_18) k) ?_
   refine o_retN X0 hx hlk (t := .boolean) hret (by simp) (hb hby o_d21_19) ⟨?_, rfl, e0⟩ (by decide) (by decide)
   rw [if_neg (fun q => c1 q.2)]; rfl
 ·refine o_q s₁ (o_f30 m 18 w0 w1 w2 w3 []) (fun _ k => XS.ifYes X0.here hx rfl (pc0 := 4) (pc' := 18) rfl (hb hby o_d21_4) rfl ((if0 _ _).trans (flt (mt (lw_lt _ _).mp c0)).2.1) (by decide) (by decide) k) ?_
  refine o_q s₁ (o_f30 m 19 w0 w1 w2 w3 [(.int (0 : Int32))]) (fun _ k => XS.iconst X0.here hx rfl (hb hby o_d21_18) k) ?_
  refine o_retN X0 hx hlk (t := .boolean) hret (by simp) (hb hby o_d21_19) ⟨?_, rfl, e0⟩ (by decide) (by decide)
  rw [if_neg (fun q => c0 q.1)]; rfl
theorem o_pd5 : parseMethodDescriptor "(III)Z" = some ⟨[.int, .int, .int], some .boolean⟩ := by decide +kernel
theorem o_pd11 : parseMethodDescriptor "(JJJJ)Z" = some ⟨[.long, .long, .long, .long], some .boolean⟩ := by decide +kernel
set_option maxRecDepth 65536 in
set_option maxHeartbeats 40000000 in
theorem o_J9 {p : Program} {l : Launch} {e : Env} {s : State} {m : MethodId} {below : List Frame} {meth : Method} {c : Code} (Z : State) (a0 : Array Value) (hw : ∀ d ∈ tables_1, d.before a0 Z = true) (n0 : Nat) (x y z frmL toL : Int64) (kq : Int32) (x0 x1 y0 y1 : Int64) (nn sn : Int32) (pp : Addr) (gt : Int32)
  (hx : p.tables.exec = Jvm.exec) (hby : c.code = code) (hml : c.maxLocals = maxLocals) (hZ : Z.Warmed39 s.vm) (hown : s.vm.findClass o_n5 = some m.cls) (hret : meth.sig.returnType = ret) (hlk : meth.locks = false) {T : State} {locs : List Loc} {hh : Heap} (X0 : Stand p l e room_1 s m #[(.long x), (.long y), (.long z), (.long frmL), (.long toL), (.int kq)] below meth c T locs 12 258) (e0 : T.heap = hh) (NL : Fr n0 locs) (hg : gt = o_w9 nn sn x0 x1 y0 y1 frmL toL) :
  o_G p e below s (fun v h L => v = some (.int (1 : Int32)) ∧ Fr n0 L) 32 448 T (o_f31 m 517 x y z frmL toL kq x0 x1 y0 y1 nn sn pp gt []) := by
 refine o_q T (o_f31 m 519 x y z frmL toL kq x0 x1 y0 y1 nn sn pp gt [(.int sn)]) (fun _ k => XS.iload X0.here hx rfl (hb hby at_517) rfl k) ?_
 refine o_q T (o_f31 m 521 x y z frmL toL kq x0 x1 y0 y1 nn sn pp gt [(.int nn), (.int sn)]) (fun _ k => XS.iload X0.here hx rfl (hb hby at_519) rfl k) ?_
 refine o_q T (o_f31 m 523 x y z frmL toL kq x0 x1 y0 y1 nn sn pp gt [(.int (9 : Int32)), (.int nn), (.int sn)]) (fun _ k => XS.bipush X0.here hx rfl (hb hby at_521) k) ?_
 obtain ⟨v1, T1, L1, hQ1, X1, st1⟩ := o_callS X0 hx hZ e0 hown (o_m hw 133 rfl) (o_m hw 134 rfl) (by decide) (o_m hw 136 rfl) (o_m hw 135 rfl) (o_after l Z a0 hw sn nn (9 : Int32) hh) (g := (o_f31 m 523 x y z frmL toL kq x0 x1 y0 y1 nn sn pp gt [(.int (9 : Int32)), (.int nn), (.int sn)])) rfl (by rw [hml]; rfl) rfl (argsL := [(.int sn), (.int nn), (.int (9 : Int32))]) (rest := []) rfl (lenOf o_pd5 rfl) rfl (hb hby at_523) (o_b rfl) (o_b rfl) (o_b rfl) (o_b rfl)
 obtain ⟨rfl, rfl, e1⟩ := hQ1
 rw [List.append_nil] at X1
 by_cases c0 : (sn < (9 : Int32) ∧ ¬ nn < (9 : Int32))
 ·rw [if_pos c0] at st1
  refine o_q T1 (o_f31 m 526 x y z frmL toL kq x0 x1 y0 y1 nn sn pp gt [(.int (1 : Int32))]) st1 ?_
  refine o_q T1 (o_f31 m 529 x y z frmL toL kq x0 x1 y0 y1 nn sn pp gt []) (fun _ k => XS.ifNo X1.here hx rfl (hb hby at_526) rfl ((if0 _ _).trans (feq (by decide : ¬ ((1 : Int32) = (0 : Int32)))).1) k) ?_
  refine o_q T1 (o_f31 m 532 x y z frmL toL kq x0 x1 y0 y1 nn sn pp gt [(.long (5 : Int64))]) (fun _ k => X1.ldc2Long hx hown (mvT hZ (o_m hw 163 rfl)) (g := (o_f31 m 529 x y z frmL toL kq x0 x1 y0 y1 nn sn pp gt [])) rfl (hb hby at_529) _ k) ?_
  refine o_q T1 (o_f31 m 535 x y z frmL toL kq x0 x1 y0 y1 nn sn pp gt [(.long (6 : Int64)), (.long (5 : Int64))]) (fun _ k => X1.ldc2Long hx hown (mvT hZ (o_m hw 164 rfl)) (g := (o_f31 m 532 x y z frmL toL kq x0 x1 y0 y1 nn sn pp gt [(.long (5 : Int64))])) rfl (hb hby at_532) _ k) ?_
  refine o_q T1 (o_f31 m 537 x y z frmL toL kq x0 x1 y0 y1 nn sn pp gt [(.long frmL), (.long (6 : Int64)), (.long (5 : Int64))]) (fun _ k => XS.lload X1.here hx rfl (hb hby at_535) rfl k) ?_
  refine o_q T1 (o_f31 m 539 x y z frmL toL kq x0 x1 y0 y1 nn sn pp gt [(.long toL), (.long frmL), (.long (6 : Int64)), (.long (5 : Int64))]) (fun _ k => XS.lload X1.here hx rfl (hb hby at_537) rfl k) ?_
  obtain ⟨v2, T2, L2, hQ2, X2, st2⟩ := o_callS X1 hx hZ e1 hown (o_m hw 137 rfl) (o_m hw 138 rfl) (by decide) (o_m hw 139 rfl) (o_m hw 135 rfl) (o_meets l Z a0 hw (5 : Int64) (6 : Int64) frmL toL hh) (g := (o_f31 m 539 x y z frmL toL kq x0 x1 y0 y1 nn sn pp gt [(.long toL), (.long frmL), (.long (6 : Int64)), (.long (5 : Int64))])) rfl (by rw [hml]; rfl) rfl (argsL := [(.long (5 : Int64)), (.long (6 : Int64)), (.long frmL), (.long toL)]) (rest := []) rfl (lenOf o_pd11 rfl) rfl (hb hby at_539) (o_b rfl) (o_b rfl) (o_b rfl) (o_b rfl)
  obtain ⟨rfl, rfl, e2⟩ := hQ2
  rw [List.append_nil] at X2
  by_cases c1 : ((5 : Int64) < toL ∧ frmL < (6 : Int64))
  ·rw [if_pos c1] at st2
   refine o_q T2 (o_f31 m 542 x y z frmL toL kq x0 x1 y0 y1 nn sn pp gt [(.int (1 : Int32))]) st2 ?_
   refine o_q T2 (o_f31 m 545 x y z frmL toL kq x0 x1 y0 y1 nn sn pp gt []) (fun _ k => XS.ifNo X2.here hx rfl (hb hby at_542) rfl ((if0 _ _).trans (feq (by decide : ¬ ((1 : Int32) = (0 : Int32)))).1) k) ?_
   refine o_q T2 (o_f31 m 546 x y z frmL toL kq x0 x1 y0 y1 nn sn pp gt [(.int (1 : Int32))]) (fun _ k => XS.iconst X2.here hx rfl (hb hby at_545) k) ?_
   refine o_q T2 (o_f31 m 550 x y z frmL toL kq x0 x1 y0 y1 nn sn pp gt [(.int (1 : Int32))]) (fun _ k => XS.goto X2.here hx rfl (pc0 := 546) (pc' := 550) rfl (hb hby at_546) (by decide) (by decide) k) ?_
   have hgt : gt = (1 : Int32) := hg.trans (by rw [o_w9, if_pos ⟨c0, c1⟩])
   refine o_q T2 (o_f32 m 552 x y z frmL toL kq x0 x1 y0 y1 nn sn pp gt (1 : Int32) []) (fun _ k => XS.istore X2.here hx rfl (hb hby at_550) rfl (l' := (o_t32 x y z frmL toL kq x0 x1 y0 y1 nn sn pp gt (1 : Int32))) rfl k) ?_
   refine o_q T2 (o_f32 m 554 x y z frmL toL kq x0 x1 y0 y1 nn sn pp gt (1 : Int32) [(.int gt)]) (fun _ k => XS.iload X2.here hx rfl (hb hby at_552) rfl k) ?_
   refine o_q T2 (o_f32 m 556 x y z frmL toL kq x0 x1 y0 y1 nn sn pp gt (1 : Int32) [(.int (1 : Int32)), (.int gt)]) (fun _ k => XS.iload X2.here hx rfl (hb hby at_554) rfl k) ?_
   refine o_q T2 (o_f32 m 559 x y z frmL toL kq x0 x1 y0 y1 nn sn pp gt (1 : Int32) []) (fun _ k => XS.icmpNo X2.here hx rfl (hb hby at_556) rfl (teq hgt).2 k) ?_
   refine o_q T2 (o_f32 m 560 x y z frmL toL kq x0 x1 y0 y1 nn sn pp gt (1 : Int32) [(.int (1 : Int32))]) (fun _ k => XS.iconst X2.here hx rfl (hb hby at_559) k) ?_
   refine o_q T2 (o_f32 m 564 x y z frmL toL kq x0 x1 y0 y1 nn sn pp gt (1 : Int32) [(.int (1 : Int32))]) (fun _ k => XS.goto X2.here hx rfl (pc0 := 560) (pc' := 564) rfl (hb hby at_560) (by decide) (by decide) k) ?_
   exact o_retN X2 hx hlk (t := .boolean) hret (by simp) (hb hby at_564) ⟨rfl, NL⟩ (by decide) (by decide)
  ·rw [if_neg c1] at st2
   refine o_q T2 (o_f31 m 542 x y z frmL toL kq x0 x1 y0 y1 nn sn pp gt [(.int (0 : Int32))]) st2 ?_
   refine o_q T2 (o_f31 m 549 x y z frmL toL kq x0 x1 y0 y1 nn sn pp gt []) (fun _ k => XS.ifYes X2.here hx rfl (pc0 := 542) (pc' := 549) rfl (hb hby at_542) rfl ((if0 _ _).trans (teq (by decide : (0 : Int32) = (0 : Int32))).1) (by decide) (by decide) k) ?_
   refine o_q T2 (o_f31 m 550 x y z frmL toL kq x0 x1 y0 y1 nn sn pp gt [(.int (0 : Int32))]) (fun _ k => XS.iconst X2.here hx rfl (hb hby at_549) k) ?_
   have hgt : gt = (0 : Int32) := hg.trans (by rw [o_w9, if_neg (fun q => c1 q.2)]; rfl)
   refine o_q T2 (o_f32 m 552 x y z frmL toL kq x0 x1 y0 y1 nn sn pp gt (0 : Int32) []) (fun _ k => XS.istore X2.here hx rfl (hb hby at_550) rfl (l' := (o_t32 x y z frmL toL kq x0 x1 y0 y1 nn sn pp gt (0 : Int32))) rfl k) ?_
   refine o_q T2 (o_f32 m 554 x y z frmL toL kq x0 x1 y0 y1 nn sn pp gt (0 : Int32) [(.int gt)]) (fun _ k => XS.iload X2.here hx rfl (hb hby at_552) rfl k) ?_
   refine o_q T2 (o_f32 m 556 x y z frmL toL kq x0 x1 y0 y1 nn sn pp gt (0 : Int32) [(.int (0 : Int32)), (.int gt)]) (fun _ k => XS.iload X2.here hx rfl (hb hby at_554) rfl k) ?_
   refine o_q T2 (o_f32 m 559 x y z frmL toL kq x0 x1 y0 y1 nn sn pp gt (0 : Int32) []) (fun _ k => XS.icmpNo X2.here hx rfl (hb hby at_556) rfl (teq hgt).2 k) ?_
   refine o_q T2 (o_f32 m 560 x y z frmL toL kq x0 x1 y0 y1 nn sn pp gt (0 : Int32) [(.int (1 : Int32))]) (fun _ k => XS.iconst X2.here hx rfl (hb hby at_559) k) ?_
   refine o_q T2 (o_f32 m 564 x y z frmL toL kq x0 x1 y0 y1 nn sn pp gt (0 : Int32) [(.int (1 : Int32))]) (fun _ k => XS.goto X2.here hx rfl (pc0 := 560) (pc' := 564) rfl (hb hby at_560) (by decide) (by decide) k) ?_
   exact o_retN X2 hx hlk (t := .boolean) hret (by simp) (hb hby at_564) ⟨rfl, NL⟩ (by decide) (by decide)
 ·rw [if_neg c0] at st1
  refine o_q T1 (o_f31 m 526 x y z frmL toL kq x0 x1 y0 y1 nn sn pp gt [(.int (0 : Int32))]) st1 ?_
  refine o_q T1 (o_f31 m 549 x y z frmL toL kq x0 x1 y0 y1 nn sn pp gt []) (fun _ k => XS.ifYes X1.here hx rfl (pc0 := 526) (pc' := 549) rfl (hb hby at_526) rfl ((if0 _ _).trans (teq (by decide : (0 : Int32) = (0 : Int32))).1) (by decide) (by decide) k) ?_
  refine o_q T1 (o_f31 m 550 x y z frmL toL kq x0 x1 y0 y1 nn sn pp gt [(.int (0 : Int32))]) (fun _ k => XS.iconst X1.here hx rfl (hb hby at_549) k) ?_
  have hgt : gt = (0 : Int32) := hg.trans (by rw [o_w9, if_neg (fun q => c0 q.1)]; rfl)
  refine o_q T1 (o_f32 m 552 x y z frmL toL kq x0 x1 y0 y1 nn sn pp gt (0 : Int32) []) (fun _ k => XS.istore X1.here hx rfl (hb hby at_550) rfl (l' := (o_t32 x y z frmL toL kq x0 x1 y0 y1 nn sn pp gt (0 : Int32))) rfl k) ?_
  refine o_q T1 (o_f32 m 554 x y z frmL toL kq x0 x1 y0 y1 nn sn pp gt (0 : Int32) [(.int gt)]) (fun _ k => XS.iload X1.here hx rfl (hb hby at_552) rfl k) ?_
  refine o_q T1 (o_f32 m 556 x y z frmL toL kq x0 x1 y0 y1 nn sn pp gt (0 : Int32) [(.int (0 : Int32)), (.int gt)]) (fun _ k => XS.iload X1.here hx rfl (hb hby at_554) rfl k) ?_
  refine o_q T1 (o_f32 m 559 x y z frmL toL kq x0 x1 y0 y1 nn sn pp gt (0 : Int32) []) (fun _ k => XS.icmpNo X1.here hx rfl (hb hby at_556) rfl (teq hgt).2 k) ?_
  refine o_q T1 (o_f32 m 560 x y z frmL toL kq x0 x1 y0 y1 nn sn pp gt (0 : Int32) [(.int (1 : Int32))]) (fun _ k => XS.iconst X1.here hx rfl (hb hby at_559) k) ?_
  refine o_q T1 (o_f32 m 564 x y z frmL toL kq x0 x1 y0 y1 nn sn pp gt (0 : Int32) [(.int (1 : Int32))]) (fun _ k => XS.goto X1.here hx rfl (pc0 := 560) (pc' := 564) rfl (hb hby at_560) (by decide) (by decide) k) ?_
  exact o_retN X1 hx hlk (t := .boolean) hret (by simp) (hb hby at_564) ⟨rfl, NL⟩ (by decide) (by decide)
set_option maxRecDepth 65536 in
set_option maxHeartbeats 40000000 in
theorem o_J8 {p : Program} {l : Launch} {e : Env} {s : State} {m : MethodId} {below : List Frame} {meth : Method} {c : Code} (Z : State) (a0 : Array Value) (hw : ∀ d ∈ tables_1, d.before a0 Z = true) (n0 : Nat) (x y z frmL toL : Int64) (kq : Int32) (x0 x1 y0 y1 : Int64) (nn sn : Int32) (pp : Addr) (gt : Int32)
  (hx : p.tables.exec = Jvm.exec) (hby : c.code = code) (hml : c.maxLocals = maxLocals) (hZ : Z.Warmed39 s.vm) (hown : s.vm.findClass o_n5 = some m.cls) (hret : meth.sig.returnType = ret) (hlk : meth.locks = false) {T : State} {locs : List Loc} {hh : Heap} (X0 : Stand p l e room_1 s m #[(.long x), (.long y), (.long z), (.long frmL), (.long toL), (.int kq)] below meth c T locs 12 258) (e0 : T.heap = hh) (NL : Fr n0 locs) (hg : gt = o_w8 nn sn x0 x1 y0 y1 frmL toL) :
  o_G p e below s (fun v h L => v = some (.int (1 : Int32)) ∧ Fr n0 L) 32 448 T (o_f31 m 489 x y z frmL toL kq x0 x1 y0 y1 nn sn pp gt []) := by
 refine o_q T (o_f31 m 491 x y z frmL toL kq x0 x1 y0 y1 nn sn pp gt [(.int sn)]) (fun _ k => XS.iload X0.here hx rfl (hb hby at_489) rfl k) ?_
 refine o_q T (o_f31 m 493 x y z frmL toL kq x0 x1 y0 y1 nn sn pp gt [(.int nn), (.int sn)]) (fun _ k => XS.iload X0.here hx rfl (hb hby at_491) rfl k) ?_
 refine o_q T (o_f31 m 495 x y z frmL toL kq x0 x1 y0 y1 nn sn pp gt [(.int (8 : Int32)), (.int nn), (.int sn)]) (fun _ k => XS.bipush X0.here hx rfl (hb hby at_493) k) ?_
 obtain ⟨v1, T1, L1, hQ1, X1, st1⟩ := o_callS X0 hx hZ e0 hown (o_m hw 133 rfl) (o_m hw 134 rfl) (by decide) (o_m hw 136 rfl) (o_m hw 135 rfl) (o_after l Z a0 hw sn nn (8 : Int32) hh) (g := (o_f31 m 495 x y z frmL toL kq x0 x1 y0 y1 nn sn pp gt [(.int (8 : Int32)), (.int nn), (.int sn)])) rfl (by rw [hml]; rfl) rfl (argsL := [(.int sn), (.int nn), (.int (8 : Int32))]) (rest := []) rfl (lenOf o_pd5 rfl) rfl (hb hby at_495) (o_b rfl) (o_b rfl) (o_b rfl) (o_b rfl)
 obtain ⟨rfl, rfl, e1⟩ := hQ1
 rw [List.append_nil] at X1
 by_cases c0 : (sn < (8 : Int32) ∧ ¬ nn < (8 : Int32))
 ·rw [if_pos c0] at st1
  refine o_q T1 (o_f31 m 498 x y z frmL toL kq x0 x1 y0 y1 nn sn pp gt [(.int (1 : Int32))]) st1 ?_
  refine o_q T1 (o_f31 m 501 x y z frmL toL kq x0 x1 y0 y1 nn sn pp gt []) (fun _ k => XS.ifNo X1.here hx rfl (hb hby at_498) rfl ((if0 _ _).trans (feq (by decide : ¬ ((1 : Int32) = (0 : Int32)))).1) k) ?_
  refine o_q T1 (o_f31 m 504 x y z frmL toL kq x0 x1 y0 y1 nn sn pp gt [(.long (-200 : Int64))]) (fun _ k => X1.ldc2Long hx hown (mvT hZ (o_m hw 161 rfl)) (g := (o_f31 m 501 x y z frmL toL kq x0 x1 y0 y1 nn sn pp gt [])) rfl (hb hby at_501) _ k) ?_
  refine o_q T1 (o_f31 m 507 x y z frmL toL kq x0 x1 y0 y1 nn sn pp gt [(.long (-100 : Int64)), (.long (-200 : Int64))]) (fun _ k => X1.ldc2Long hx hown (mvT hZ (o_m hw 162 rfl)) (g := (o_f31 m 504 x y z frmL toL kq x0 x1 y0 y1 nn sn pp gt [(.long (-200 : Int64))])) rfl (hb hby at_504) _ k) ?_
  refine o_q T1 (o_f31 m 509 x y z frmL toL kq x0 x1 y0 y1 nn sn pp gt [(.long frmL), (.long (-100 : Int64)), (.long (-200 : Int64))]) (fun _ k => XS.lload X1.here hx rfl (hb hby at_507) rfl k) ?_
  refine o_q T1 (o_f31 m 511 x y z frmL toL kq x0 x1 y0 y1 nn sn pp gt [(.long toL), (.long frmL), (.long (-100 : Int64)), (.long (-200 : Int64))]) (fun _ k => XS.lload X1.here hx rfl (hb hby at_509) rfl k) ?_
  obtain ⟨v2, T2, L2, hQ2, X2, st2⟩ := o_callS X1 hx hZ e1 hown (o_m hw 137 rfl) (o_m hw 138 rfl) (by decide) (o_m hw 139 rfl) (o_m hw 135 rfl) (o_meets l Z a0 hw (-200 : Int64) (-100 : Int64) frmL toL hh) (g := (o_f31 m 511 x y z frmL toL kq x0 x1 y0 y1 nn sn pp gt [(.long toL), (.long frmL), (.long (-100 : Int64)), (.long (-200 : Int64))])) rfl (by rw [hml]; rfl) rfl (argsL := [(.long (-200 : Int64)), (.long (-100 : Int64)), (.long frmL), (.long toL)]) (rest := []) rfl (lenOf o_pd11 rfl) rfl (hb hby at_511) (o_b rfl) (o_b rfl) (o_b rfl) (o_b rfl)
  obtain ⟨rfl, rfl, e2⟩ := hQ2
  rw [List.append_nil] at X2
  by_cases c1 : ((-200 : Int64) < toL ∧ frmL < (-100 : Int64))
  ·rw [if_pos c1] at st2
   refine o_q T2 (o_f31 m 514 x y z frmL toL kq x0 x1 y0 y1 nn sn pp gt [(.int (1 : Int32))]) st2 ?_
   refine o_q T2 (o_f31 m 545 x y z frmL toL kq x0 x1 y0 y1 nn sn pp gt []) (fun _ k => XS.ifYes X2.here hx rfl (pc0 := 514) (pc' := 545) rfl (hb hby at_514) rfl ((if0 _ _).trans (feq (by decide : ¬ ((1 : Int32) = (0 : Int32)))).2) (by decide) (by decide) k) ?_
   refine o_q T2 (o_f31 m 546 x y z frmL toL kq x0 x1 y0 y1 nn sn pp gt [(.int (1 : Int32))]) (fun _ k => XS.iconst X2.here hx rfl (hb hby at_545) k) ?_
   refine o_q T2 (o_f31 m 550 x y z frmL toL kq x0 x1 y0 y1 nn sn pp gt [(.int (1 : Int32))]) (fun _ k => XS.goto X2.here hx rfl (pc0 := 546) (pc' := 550) rfl (hb hby at_546) (by decide) (by decide) k) ?_
   have hgt : gt = (1 : Int32) := hg.trans (by rw [o_w8, if_pos ⟨c0, c1⟩])
   refine o_q T2 (o_f32 m 552 x y z frmL toL kq x0 x1 y0 y1 nn sn pp gt (1 : Int32) []) (fun _ k => XS.istore X2.here hx rfl (hb hby at_550) rfl (l' := (o_t32 x y z frmL toL kq x0 x1 y0 y1 nn sn pp gt (1 : Int32))) rfl k) ?_
   refine o_q T2 (o_f32 m 554 x y z frmL toL kq x0 x1 y0 y1 nn sn pp gt (1 : Int32) [(.int gt)]) (fun _ k => XS.iload X2.here hx rfl (hb hby at_552) rfl k) ?_
   refine o_q T2 (o_f32 m 556 x y z frmL toL kq x0 x1 y0 y1 nn sn pp gt (1 : Int32) [(.int (1 : Int32)), (.int gt)]) (fun _ k => XS.iload X2.here hx rfl (hb hby at_554) rfl k) ?_
   refine o_q T2 (o_f32 m 559 x y z frmL toL kq x0 x1 y0 y1 nn sn pp gt (1 : Int32) []) (fun _ k => XS.icmpNo X2.here hx rfl (hb hby at_556) rfl (teq hgt).2 k) ?_
   refine o_q T2 (o_f32 m 560 x y z frmL toL kq x0 x1 y0 y1 nn sn pp gt (1 : Int32) [(.int (1 : Int32))]) (fun _ k => XS.iconst X2.here hx rfl (hb hby at_559) k) ?_
   refine o_q T2 (o_f32 m 564 x y z frmL toL kq x0 x1 y0 y1 nn sn pp gt (1 : Int32) [(.int (1 : Int32))]) (fun _ k => XS.goto X2.here hx rfl (pc0 := 560) (pc' := 564) rfl (hb hby at_560) (by decide) (by decide) k) ?_
   exact o_retN X2 hx hlk (t := .boolean) hret (by simp) (hb hby at_564) ⟨rfl, NL⟩ (by decide) (by decide)
  ·rw [if_neg c1] at st2
   refine o_q T2 (o_f31 m 514 x y z frmL toL kq x0 x1 y0 y1 nn sn pp gt [(.int (0 : Int32))]) st2 ?_
   refine o_q T2 (o_f31 m 517 x y z frmL toL kq x0 x1 y0 y1 nn sn pp gt []) (fun _ k => XS.ifNo X2.here hx rfl (hb hby at_514) rfl ((if0 _ _).trans (teq (by decide : (0 : Int32) = (0 : Int32))).2) k) ?_
   exact o_J9 Z a0 hw n0 x y z frmL toL kq x0 x1 y0 y1 nn sn pp gt hx hby hml hZ hown hret hlk X2 e2 NL (hg.trans (by rw [o_w8, if_neg (fun q => c1 q.2)]))
 ·rw [if_neg c0] at st1
  refine o_q T1 (o_f31 m 498 x y z frmL toL kq x0 x1 y0 y1 nn sn pp gt [(.int (0 : Int32))]) st1 ?_
  refine o_q T1 (o_f31 m 517 x y z frmL toL kq x0 x1 y0 y1 nn sn pp gt []) (fun _ k => XS.ifYes X1.here hx rfl (pc0 := 498) (pc' := 517) rfl (hb hby at_498) rfl ((if0 _ _).trans (teq (by decide : (0 : Int32) = (0 : Int32))).1) (by decide) (by decide) k) ?_
  exact o_J9 Z a0 hw n0 x y z frmL toL kq x0 x1 y0 y1 nn sn pp gt hx hby hml hZ hown hret hlk X1 e1 NL (hg.trans (by rw [o_w8, if_neg (fun q => c0 q.1)]))
set_option maxRecDepth 65536 in
set_option maxHeartbeats 40000000 in
theorem o_J7 {p : Program} {l : Launch} {e : Env} {s : State} {m : MethodId} {below : List Frame} {meth : Method} {c : Code} (Z : State) (a0 : Array Value) (hw : ∀ d ∈ tables_1, d.before a0 Z = true) (n0 : Nat) (x y z frmL toL : Int64) (kq : Int32) (x0 x1 y0 y1 : Int64) (nn sn : Int32) (pp : Addr) (gt : Int32)
  (hx : p.tables.exec = Jvm.exec) (hby : c.code = code) (hml : c.maxLocals = maxLocals) (hZ : Z.Warmed39 s.vm) (hown : s.vm.findClass o_n5 = some m.cls) (hret : meth.sig.returnType = ret) (hlk : meth.locks = false) {T : State} {locs : List Loc} {hh : Heap} (X0 : Stand p l e room_1 s m #[(.long x), (.long y), (.long z), (.long frmL), (.long toL), (.int kq)] below meth c T locs 12 258) (e0 : T.heap = hh) (NL : Fr n0 locs) (hg : gt = o_w7 nn sn x0 x1 y0 y1 frmL toL) :
  o_G p e below s (fun v h L => v = some (.int (1 : Int32)) ∧ Fr n0 L) 32 448 T (o_f31 m 461 x y z frmL toL kq x0 x1 y0 y1 nn sn pp gt []) := by
 refine o_q T (o_f31 m 463 x y z frmL toL kq x0 x1 y0 y1 nn sn pp gt [(.int sn)]) (fun _ k => XS.iload X0.here hx rfl (hb hby at_461) rfl k) ?_
 refine o_q T (o_f31 m 465 x y z frmL toL kq x0 x1 y0 y1 nn sn pp gt [(.int nn), (.int sn)]) (fun _ k => XS.iload X0.here hx rfl (hb hby at_463) rfl k) ?_
 refine o_q T (o_f31 m 467 x y z frmL toL kq x0 x1 y0 y1 nn sn pp gt [(.int (7 : Int32)), (.int nn), (.int sn)]) (fun _ k => XS.bipush X0.here hx rfl (hb hby at_465) k) ?_
 obtain ⟨v1, T1, L1, hQ1, X1, st1⟩ := o_callS X0 hx hZ e0 hown (o_m hw 133 rfl) (o_m hw 134 rfl) (by decide) (o_m hw 136 rfl) (o_m hw 135 rfl) (o_after l Z a0 hw sn nn (7 : Int32) hh) (g := (o_f31 m 467 x y z frmL toL kq x0 x1 y0 y1 nn sn pp gt [(.int (7 : Int32)), (.int nn), (.int sn)])) rfl (by rw [hml]; rfl) rfl (argsL := [(.int sn), (.int nn), (.int (7 : Int32))]) (rest := []) rfl (lenOf o_pd5 rfl) rfl (hb hby at_467) (o_b rfl) (o_b rfl) (o_b rfl) (o_b rfl)
 obtain ⟨rfl, rfl, e1⟩ := hQ1
 rw [List.append_nil] at X1
 by_cases c0 : (sn < (7 : Int32) ∧ ¬ nn < (7 : Int32))
 ·rw [if_pos c0] at st1
  refine o_q T1 (o_f31 m 470 x y z frmL toL kq x0 x1 y0 y1 nn sn pp gt [(.int (1 : Int32))]) st1 ?_
  refine o_q T1 (o_f31 m 473 x y z frmL toL kq x0 x1 y0 y1 nn sn pp gt []) (fun _ k => XS.ifNo X1.here hx rfl (hb hby at_470) rfl ((if0 _ _).trans (feq (by decide : ¬ ((1 : Int32) = (0 : Int32)))).1) k) ?_
  refine o_q T1 (o_f31 m 476 x y z frmL toL kq x0 x1 y0 y1 nn sn pp gt [(.long (100 : Int64))]) (fun _ k => X1.ldc2Long hx hown (mvT hZ (o_m hw 159 rfl)) (g := (o_f31 m 473 x y z frmL toL kq x0 x1 y0 y1 nn sn pp gt [])) rfl (hb hby at_473) _ k) ?_
  refine o_q T1 (o_f31 m 479 x y z frmL toL kq x0 x1 y0 y1 nn sn pp gt [(.long (200 : Int64)), (.long (100 : Int64))]) (fun _ k => X1.ldc2Long hx hown (mvT hZ (o_m hw 160 rfl)) (g := (o_f31 m 476 x y z frmL toL kq x0 x1 y0 y1 nn sn pp gt [(.long (100 : Int64))])) rfl (hb hby at_476) _ k) ?_
  refine o_q T1 (o_f31 m 481 x y z frmL toL kq x0 x1 y0 y1 nn sn pp gt [(.long frmL), (.long (200 : Int64)), (.long (100 : Int64))]) (fun _ k => XS.lload X1.here hx rfl (hb hby at_479) rfl k) ?_
  refine o_q T1 (o_f31 m 483 x y z frmL toL kq x0 x1 y0 y1 nn sn pp gt [(.long toL), (.long frmL), (.long (200 : Int64)), (.long (100 : Int64))]) (fun _ k => XS.lload X1.here hx rfl (hb hby at_481) rfl k) ?_
  obtain ⟨v2, T2, L2, hQ2, X2, st2⟩ := o_callS X1 hx hZ e1 hown (o_m hw 137 rfl) (o_m hw 138 rfl) (by decide) (o_m hw 139 rfl) (o_m hw 135 rfl) (o_meets l Z a0 hw (100 : Int64) (200 : Int64) frmL toL hh) (g := (o_f31 m 483 x y z frmL toL kq x0 x1 y0 y1 nn sn pp gt [(.long toL), (.long frmL), (.long (200 : Int64)), (.long (100 : Int64))])) rfl (by rw [hml]; rfl) rfl (argsL := [(.long (100 : Int64)), (.long (200 : Int64)), (.long frmL), (.long toL)]) (rest := []) rfl (lenOf o_pd11 rfl) rfl (hb hby at_483) (o_b rfl) (o_b rfl) (o_b rfl) (o_b rfl)
  obtain ⟨rfl, rfl, e2⟩ := hQ2
  rw [List.append_nil] at X2
  by_cases c1 : ((100 : Int64) < toL ∧ frmL < (200 : Int64))
  ·rw [if_pos c1] at st2
   refine o_q T2 (o_f31 m 486 x y z frmL toL kq x0 x1 y0 y1 nn sn pp gt [(.int (1 : Int32))]) st2 ?_
   refine o_q T2 (o_f31 m 545 x y z frmL toL kq x0 x1 y0 y1 nn sn pp gt []) (fun _ k => XS.ifYes X2.here hx rfl (pc0 := 486) (pc' := 545) rfl (hb hby at_486) rfl ((if0 _ _).trans (feq (by decide : ¬ ((1 : Int32) = (0 : Int32)))).2) (by decide) (by decide) k) ?_
   refine o_q T2 (o_f31 m 546 x y z frmL toL kq x0 x1 y0 y1 nn sn pp gt [(.int (1 : Int32))]) (fun _ k => XS.iconst X2.here hx rfl (hb hby at_545) k) ?_
   refine o_q T2 (o_f31 m 550 x y z frmL toL kq x0 x1 y0 y1 nn sn pp gt [(.int (1 : Int32))]) (fun _ k => XS.goto X2.here hx rfl (pc0 := 546) (pc' := 550) rfl (hb hby at_546) (by decide) (by decide) k) ?_
   have hgt : gt = (1 : Int32) := hg.trans (by rw [o_w7, if_pos ⟨c0, c1⟩])
   refine o_q T2 (o_f32 m 552 x y z frmL toL kq x0 x1 y0 y1 nn sn pp gt (1 : Int32) []) (fun _ k => XS.istore X2.here hx rfl (hb hby at_550) rfl (l' := (o_t32 x y z frmL toL kq x0 x1 y0 y1 nn sn pp gt (1 : Int32))) rfl k) ?_
   refine o_q T2 (o_f32 m 554 x y z frmL toL kq x0 x1 y0 y1 nn sn pp gt (1 : Int32) [(.int gt)]) (fun _ k => XS.iload X2.here hx rfl (hb hby at_552) rfl k) ?_
   refine o_q T2 (o_f32 m 556 x y z frmL toL kq x0 x1 y0 y1 nn sn pp gt (1 : Int32) [(.int (1 : Int32)), (.int gt)]) (fun _ k => XS.iload X2.here hx rfl (hb hby at_554) rfl k) ?_
   refine o_q T2 (o_f32 m 559 x y z frmL toL kq x0 x1 y0 y1 nn sn pp gt (1 : Int32) []) (fun _ k => XS.icmpNo X2.here hx rfl (hb hby at_556) rfl (teq hgt).2 k) ?_
   refine o_q T2 (o_f32 m 560 x y z frmL toL kq x0 x1 y0 y1 nn sn pp gt (1 : Int32) [(.int (1 : Int32))]) (fun _ k => XS.iconst X2.here hx rfl (hb hby at_559) k) ?_
   refine o_q T2 (o_f32 m 564 x y z frmL toL kq x0 x1 y0 y1 nn sn pp gt (1 : Int32) [(.int (1 : Int32))]) (fun _ k => XS.goto X2.here hx rfl (pc0 := 560) (pc' := 564) rfl (hb hby at_560) (by decide) (by decide) k) ?_
   exact o_retN X2 hx hlk (t := .boolean) hret (by simp) (hb hby at_564) ⟨rfl, NL⟩ (by decide) (by decide)
  ·rw [if_neg c1] at st2
   refine o_q T2 (o_f31 m 486 x y z frmL toL kq x0 x1 y0 y1 nn sn pp gt [(.int (0 : Int32))]) st2 ?_
   refine o_q T2 (o_f31 m 489 x y z frmL toL kq x0 x1 y0 y1 nn sn pp gt []) (fun _ k => XS.ifNo X2.here hx rfl (hb hby at_486) rfl ((if0 _ _).trans (teq (by decide : (0 : Int32) = (0 : Int32))).2) k) ?_
   exact o_J8 Z a0 hw n0 x y z frmL toL kq x0 x1 y0 y1 nn sn pp gt hx hby hml hZ hown hret hlk X2 e2 NL (hg.trans (by rw [o_w7, if_neg (fun q => c1 q.2)]))
 ·rw [if_neg c0] at st1
  refine o_q T1 (o_f31 m 470 x y z frmL toL kq x0 x1 y0 y1 nn sn pp gt [(.int (0 : Int32))]) st1 ?_
  refine o_q T1 (o_f31 m 489 x y z frmL toL kq x0 x1 y0 y1 nn sn pp gt []) (fun _ k => XS.ifYes X1.here hx rfl (pc0 := 470) (pc' := 489) rfl (hb hby at_470) rfl ((if0 _ _).trans (teq (by decide : (0 : Int32) = (0 : Int32))).1) (by decide) (by decide) k) ?_
  exact o_J8 Z a0 hw n0 x y z frmL toL kq x0 x1 y0 y1 nn sn pp gt hx hby hml hZ hown hret hlk X1 e1 NL (hg.trans (by rw [o_w7, if_neg (fun q => c0 q.1)]))
set_option maxRecDepth 65536 in
set_option maxHeartbeats 40000000 in
theorem o_J6 {p : Program} {l : Launch} {e : Env} {s : State} {m : MethodId} {below : List Frame} {meth : Method} {c : Code} (Z : State) (a0 : Array Value) (hw : ∀ d ∈ tables_1, d.before a0 Z = true) (n0 : Nat) (x y z frmL toL : Int64) (kq : Int32) (x0 x1 y0 y1 : Int64) (nn sn : Int32) (pp : Addr) (gt : Int32)
  (hx : p.tables.exec = Jvm.exec) (hby : c.code = code) (hml : c.maxLocals = maxLocals) (hZ : Z.Warmed39 s.vm) (hown : s.vm.findClass o_n5 = some m.cls) (hret : meth.sig.returnType = ret) (hlk : meth.locks = false) {T : State} {locs : List Loc} {hh : Heap} (X0 : Stand p l e room_1 s m #[(.long x), (.long y), (.long z), (.long frmL), (.long toL), (.int kq)] below meth c T locs 12 258) (e0 : T.heap = hh) (NL : Fr n0 locs) (hg : gt = o_w6 nn sn x0 x1 y0 y1 frmL toL) :
  o_G p e below s (fun v h L => v = some (.int (1 : Int32)) ∧ Fr n0 L) 32 448 T (o_f31 m 433 x y z frmL toL kq x0 x1 y0 y1 nn sn pp gt []) := by
 refine o_q T (o_f31 m 435 x y z frmL toL kq x0 x1 y0 y1 nn sn pp gt [(.int sn)]) (fun _ k => XS.iload X0.here hx rfl (hb hby at_433) rfl k) ?_
 refine o_q T (o_f31 m 437 x y z frmL toL kq x0 x1 y0 y1 nn sn pp gt [(.int nn), (.int sn)]) (fun _ k => XS.iload X0.here hx rfl (hb hby at_435) rfl k) ?_
 refine o_q T (o_f31 m 439 x y z frmL toL kq x0 x1 y0 y1 nn sn pp gt [(.int (6 : Int32)), (.int nn), (.int sn)]) (fun _ k => XS.bipush X0.here hx rfl (hb hby at_437) k) ?_
 obtain ⟨v1, T1, L1, hQ1, X1, st1⟩ := o_callS X0 hx hZ e0 hown (o_m hw 133 rfl) (o_m hw 134 rfl) (by decide) (o_m hw 136 rfl) (o_m hw 135 rfl) (o_after l Z a0 hw sn nn (6 : Int32) hh) (g := (o_f31 m 439 x y z frmL toL kq x0 x1 y0 y1 nn sn pp gt [(.int (6 : Int32)), (.int nn), (.int sn)])) rfl (by rw [hml]; rfl) rfl (argsL := [(.int sn), (.int nn), (.int (6 : Int32))]) (rest := []) rfl (lenOf o_pd5 rfl) rfl (hb hby at_439) (o_b rfl) (o_b rfl) (o_b rfl) (o_b rfl)
 obtain ⟨rfl, rfl, e1⟩ := hQ1
 rw [List.append_nil] at X1
 by_cases c0 : (sn < (6 : Int32) ∧ ¬ nn < (6 : Int32))
 ·rw [if_pos c0] at st1
  refine o_q T1 (o_f31 m 442 x y z frmL toL kq x0 x1 y0 y1 nn sn pp gt [(.int (1 : Int32))]) st1 ?_
  refine o_q T1 (o_f31 m 445 x y z frmL toL kq x0 x1 y0 y1 nn sn pp gt []) (fun _ k => XS.ifNo X1.here hx rfl (hb hby at_442) rfl ((if0 _ _).trans (feq (by decide : ¬ ((1 : Int32) = (0 : Int32)))).1) k) ?_
  refine o_q T1 (o_f31 m 448 x y z frmL toL kq x0 x1 y0 y1 nn sn pp gt [(.long (-10 : Int64))]) (fun _ k => X1.ldc2Long hx hown (mvT hZ (o_m hw 157 rfl)) (g := (o_f31 m 445 x y z frmL toL kq x0 x1 y0 y1 nn sn pp gt [])) rfl (hb hby at_445) _ k) ?_
  refine o_q T1 (o_f31 m 451 x y z frmL toL kq x0 x1 y0 y1 nn sn pp gt [(.long (10 : Int64)), (.long (-10 : Int64))]) (fun _ k => X1.ldc2Long hx hown (mvT hZ (o_m hw 158 rfl)) (g := (o_f31 m 448 x y z frmL toL kq x0 x1 y0 y1 nn sn pp gt [(.long (-10 : Int64))])) rfl (hb hby at_448) _ k) ?_
  refine o_q T1 (o_f31 m 453 x y z frmL toL kq x0 x1 y0 y1 nn sn pp gt [(.long frmL), (.long (10 : Int64)), (.long (-10 : Int64))]) (fun _ k => XS.lload X1.here hx rfl (hb hby at_451) rfl k) ?_
  refine o_q T1 (o_f31 m 455 x y z frmL toL kq x0 x1 y0 y1 nn sn pp gt [(.long toL), (.long frmL), (.long (10 : Int64)), (.long (-10 : Int64))]) (fun _ k => XS.lload X1.here hx rfl (hb hby at_453) rfl k) ?_
  obtain ⟨v2, T2, L2, hQ2, X2, st2⟩ := o_callS X1 hx hZ e1 hown (o_m hw 137 rfl) (o_m hw 138 rfl) (by decide) (o_m hw 139 rfl) (o_m hw 135 rfl) (o_meets l Z a0 hw (-10 : Int64) (10 : Int64) frmL toL hh) (g := (o_f31 m 455 x y z frmL toL kq x0 x1 y0 y1 nn sn pp gt [(.long toL), (.long frmL), (.long (10 : Int64)), (.long (-10 : Int64))])) rfl (by rw [hml]; rfl) rfl (argsL := [(.long (-10 : Int64)), (.long (10 : Int64)), (.long frmL), (.long toL)]) (rest := []) rfl (lenOf o_pd11 rfl) rfl (hb hby at_455) (o_b rfl) (o_b rfl) (o_b rfl) (o_b rfl)
  obtain ⟨rfl, rfl, e2⟩ := hQ2
  rw [List.append_nil] at X2
  by_cases c1 : ((-10 : Int64) < toL ∧ frmL < (10 : Int64))
  ·rw [if_pos c1] at st2
   refine o_q T2 (o_f31 m 458 x y z frmL toL kq x0 x1 y0 y1 nn sn pp gt [(.int (1 : Int32))]) st2 ?_
   refine o_q T2 (o_f31 m 545 x y z frmL toL kq x0 x1 y0 y1 nn sn pp gt []) (fun _ k => XS.ifYes X2.here hx rfl (pc0 := 458) (pc' := 545) rfl (hb hby at_458) rfl ((if0 _ _).trans (feq (by decide : ¬ ((1 : Int32) = (0 : Int32)))).2) (by decide) (by decide) k) ?_
   refine o_q T2 (o_f31 m 546 x y z frmL toL kq x0 x1 y0 y1 nn sn pp gt [(.int (1 : Int32))]) (fun _ k => XS.iconst X2.here hx rfl (hb hby at_545) k) ?_
   refine o_q T2 (o_f31 m 550 x y z frmL toL kq x0 x1 y0 y1 nn sn pp gt [(.int (1 : Int32))]) (fun _ k => XS.goto X2.here hx rfl (pc0 := 546) (pc' := 550) rfl (hb hby at_546) (by decide) (by decide) k) ?_
   have hgt : gt = (1 : Int32) := hg.trans (by rw [o_w6, if_pos ⟨c0, c1⟩])
   refine o_q T2 (o_f32 m 552 x y z frmL toL kq x0 x1 y0 y1 nn sn pp gt (1 : Int32) []) (fun _ k => XS.istore X2.here hx rfl (hb hby at_550) rfl (l' := (o_t32 x y z frmL toL kq x0 x1 y0 y1 nn sn pp gt (1 : Int32))) rfl k) ?_
   refine o_q T2 (o_f32 m 554 x y z frmL toL kq x0 x1 y0 y1 nn sn pp gt (1 : Int32) [(.int gt)]) (fun _ k => XS.iload X2.here hx rfl (hb hby at_552) rfl k) ?_
   refine o_q T2 (o_f32 m 556 x y z frmL toL kq x0 x1 y0 y1 nn sn pp gt (1 : Int32) [(.int (1 : Int32)), (.int gt)]) (fun _ k => XS.iload X2.here hx rfl (hb hby at_554) rfl k) ?_
   refine o_q T2 (o_f32 m 559 x y z frmL toL kq x0 x1 y0 y1 nn sn pp gt (1 : Int32) []) (fun _ k => XS.icmpNo X2.here hx rfl (hb hby at_556) rfl (teq hgt).2 k) ?_
   refine o_q T2 (o_f32 m 560 x y z frmL toL kq x0 x1 y0 y1 nn sn pp gt (1 : Int32) [(.int (1 : Int32))]) (fun _ k => XS.iconst X2.here hx rfl (hb hby at_559) k) ?_
   refine o_q T2 (o_f32 m 564 x y z frmL toL kq x0 x1 y0 y1 nn sn pp gt (1 : Int32) [(.int (1 : Int32))]) (fun _ k => XS.goto X2.here hx rfl (pc0 := 560) (pc' := 564) rfl (hb hby at_560) (by decide) (by decide) k) ?_
   exact o_retN X2 hx hlk (t := .boolean) hret (by simp) (hb hby at_564) ⟨rfl, NL⟩ (by decide) (by decide)
  ·rw [if_neg c1] at st2
   refine o_q T2 (o_f31 m 458 x y z frmL toL kq x0 x1 y0 y1 nn sn pp gt [(.int (0 : Int32))]) st2 ?_
   refine o_q T2 (o_f31 m 461 x y z frmL toL kq x0 x1 y0 y1 nn sn pp gt []) (fun _ k => XS.ifNo X2.here hx rfl (hb hby at_458) rfl ((if0 _ _).trans (teq (by decide : (0 : Int32) = (0 : Int32))).2) k) ?_
   exact o_J7 Z a0 hw n0 x y z frmL toL kq x0 x1 y0 y1 nn sn pp gt hx hby hml hZ hown hret hlk X2 e2 NL (hg.trans (by rw [o_w6, if_neg (fun q => c1 q.2)]))
 ·rw [if_neg c0] at st1
  refine o_q T1 (o_f31 m 442 x y z frmL toL kq x0 x1 y0 y1 nn sn pp gt [(.int (0 : Int32))]) st1 ?_
  refine o_q T1 (o_f31 m 461 x y z frmL toL kq x0 x1 y0 y1 nn sn pp gt []) (fun _ k => XS.ifYes X1.here hx rfl (pc0 := 442) (pc' := 461) rfl (hb hby at_442) rfl ((if0 _ _).trans (teq (by decide : (0 : Int32) = (0 : Int32))).1) (by decide) (by decide) k) ?_
  exact o_J7 Z a0 hw n0 x y z frmL toL kq x0 x1 y0 y1 nn sn pp gt hx hby hml hZ hown hret hlk X1 e1 NL (hg.trans (by rw [o_w6, if_neg (fun q => c0 q.1)]))
set_option maxRecDepth 65536 in
set_option maxHeartbeats 40000000 in
theorem o_J5 {p : Program} {l : Launch} {e : Env} {s : State} {m : MethodId} {below : List Frame} {meth : Method} {c : Code} (Z : State) (a0 : Array Value) (hw : ∀ d ∈ tables_1, d.before a0 Z = true) (n0 : Nat) (x y z frmL toL : Int64) (kq : Int32) (x0 x1 y0 y1 : Int64) (nn sn : Int32) (pp : Addr) (gt : Int32)
  (hx : p.tables.exec = Jvm.exec) (hby : c.code = code) (hml : c.maxLocals = maxLocals) (hZ : Z.Warmed39 s.vm) (hown : s.vm.findClass o_n5 = some m.cls) (hret : meth.sig.returnType = ret) (hlk : meth.locks = false) {T : State} {locs : List Loc} {hh : Heap} (X0 : Stand p l e room_1 s m #[(.long x), (.long y), (.long z), (.long frmL), (.long toL), (.int kq)] below meth c T locs 12 258) (e0 : T.heap = hh) (NL : Fr n0 locs) (hg : gt = o_w5 nn sn x0 x1 y0 y1 frmL toL) :
  o_G p e below s (fun v h L => v = some (.int (1 : Int32)) ∧ Fr n0 L) 32 448 T (o_f31 m 406 x y z frmL toL kq x0 x1 y0 y1 nn sn pp gt []) := by
 refine o_q T (o_f31 m 408 x y z frmL toL kq x0 x1 y0 y1 nn sn pp gt [(.int sn)]) (fun _ k => XS.iload X0.here hx rfl (hb hby at_406) rfl k) ?_
 refine o_q T (o_f31 m 410 x y z frmL toL kq x0 x1 y0 y1 nn sn pp gt [(.int nn), (.int sn)]) (fun _ k => XS.iload X0.here hx rfl (hb hby at_408) rfl k) ?_
 refine o_q T (o_f31 m 411 x y z frmL toL kq x0 x1 y0 y1 nn sn pp gt [(.int (5 : Int32)), (.int nn), (.int sn)]) (fun _ k => XS.iconst X0.here hx rfl (hb hby at_410) k) ?_
 obtain ⟨v1, T1, L1, hQ1, X1, st1⟩ := o_callS X0 hx hZ e0 hown (o_m hw 133 rfl) (o_m hw 134 rfl) (by decide) (o_m hw 136 rfl) (o_m hw 135 rfl) (o_after l Z a0 hw sn nn (5 : Int32) hh) (g := (o_f31 m 411 x y z frmL toL kq x0 x1 y0 y1 nn sn pp gt [(.int (5 : Int32)), (.int nn), (.int sn)])) rfl (by rw [hml]; rfl) rfl (argsL := [(.int sn), (.int nn), (.int (5 : Int32))]) (rest := []) rfl (lenOf o_pd5 rfl) rfl (hb hby at_411) (o_b rfl) (o_b rfl) (o_b rfl) (o_b rfl)
 obtain ⟨rfl, rfl, e1⟩ := hQ1
 rw [List.append_nil] at X1
 by_cases c0 : (sn < (5 : Int32) ∧ ¬ nn < (5 : Int32))
 ·rw [if_pos c0] at st1
  refine o_q T1 (o_f31 m 414 x y z frmL toL kq x0 x1 y0 y1 nn sn pp gt [(.int (1 : Int32))]) st1 ?_
  refine o_q T1 (o_f31 m 417 x y z frmL toL kq x0 x1 y0 y1 nn sn pp gt []) (fun _ k => XS.ifNo X1.here hx rfl (hb hby at_414) rfl ((if0 _ _).trans (feq (by decide : ¬ ((1 : Int32) = (0 : Int32)))).1) k) ?_
  refine o_q T1 (o_f31 m 420 x y z frmL toL kq x0 x1 y0 y1 nn sn pp gt [(.long (9223372036854775806 : Int64))]) (fun _ k => X1.ldc2Long hx hown (mvT hZ (o_m hw 156 rfl)) (g := (o_f31 m 417 x y z frmL toL kq x0 x1 y0 y1 nn sn pp gt [])) rfl (hb hby at_417) _ k) ?_
  refine o_q T1 (o_f31 m 423 x y z frmL toL kq x0 x1 y0 y1 nn sn pp gt [(.long (9223372036854775807 : Int64)), (.long (9223372036854775806 : Int64))]) (fun _ k => X1.ldc2Long hx hown (mvT hZ (o_m hw 155 rfl)) (g := (o_f31 m 420 x y z frmL toL kq x0 x1 y0 y1 nn sn pp gt [(.long (9223372036854775806 : Int64))])) rfl (hb hby at_420) _ k) ?_
  refine o_q T1 (o_f31 m 425 x y z frmL toL kq x0 x1 y0 y1 nn sn pp gt [(.long frmL), (.long (9223372036854775807 : Int64)), (.long (9223372036854775806 : Int64))]) (fun _ k => XS.lload X1.here hx rfl (hb hby at_423) rfl k) ?_
  refine o_q T1 (o_f31 m 427 x y z frmL toL kq x0 x1 y0 y1 nn sn pp gt [(.long toL), (.long frmL), (.long (9223372036854775807 : Int64)), (.long (9223372036854775806 : Int64))]) (fun _ k => XS.lload X1.here hx rfl (hb hby at_425) rfl k) ?_
  obtain ⟨v2, T2, L2, hQ2, X2, st2⟩ := o_callS X1 hx hZ e1 hown (o_m hw 137 rfl) (o_m hw 138 rfl) (by decide) (o_m hw 139 rfl) (o_m hw 135 rfl) (o_meets l Z a0 hw (9223372036854775806 : Int64) (9223372036854775807 : Int64) frmL toL hh) (g := (o_f31 m 427 x y z frmL toL kq x0 x1 y0 y1 nn sn pp gt [(.long toL), (.long frmL), (.long (9223372036854775807 : Int64)), (.long (9223372036854775806 : Int64))])) rfl (by rw [hml]; rfl) rfl (argsL := [(.long (9223372036854775806 : Int64)), (.long (9223372036854775807 : Int64)), (.long frmL), (.long toL)]) (rest := []) rfl (lenOf o_pd11 rfl) rfl (hb hby at_427) (o_b rfl) (o_b rfl) (o_b rfl) (o_b rfl)
  obtain ⟨rfl, rfl, e2⟩ := hQ2
  rw [List.append_nil] at X2
  by_cases c1 : ((9223372036854775806 : Int64) < toL ∧ frmL < (9223372036854775807 : Int64))
  ·rw [if_pos c1] at st2
   refine o_q T2 (o_f31 m 430 x y z frmL toL kq x0 x1 y0 y1 nn sn pp gt [(.int (1 : Int32))]) st2 ?_
   refine o_q T2 (o_f31 m 545 x y z frmL toL kq x0 x1 y0 y1 nn sn pp gt []) (fun _ k => XS.ifYes X2.here hx rfl (pc0 := 430) (pc' := 545) rfl (hb hby at_430) rfl ((if0 _ _).trans (feq (by decide : ¬ ((1 : Int32) = (0 : Int32)))).2) (by decide) (by decide) k) ?_
   refine o_q T2 (o_f31 m 546 x y z frmL toL kq x0 x1 y0 y1 nn sn pp gt [(.int (1 : Int32))]) (fun _ k => XS.iconst X2.here hx rfl (hb hby at_545) k) ?_
   refine o_q T2 (o_f31 m 550 x y z frmL toL kq x0 x1 y0 y1 nn sn pp gt [(.int (1 : Int32))]) (fun _ k => XS.goto X2.here hx rfl (pc0 := 546) (pc' := 550) rfl (hb hby at_546) (by decide) (by decide) k) ?_
   have hgt : gt = (1 : Int32) := hg.trans (by rw [o_w5, if_pos ⟨c0, c1⟩])
   refine o_q T2 (o_f32 m 552 x y z frmL toL kq x0 x1 y0 y1 nn sn pp gt (1 : Int32) []) (fun _ k => XS.istore X2.here hx rfl (hb hby at_550) rfl (l' := (o_t32 x y z frmL toL kq x0 x1 y0 y1 nn sn pp gt (1 : Int32))) rfl k) ?_
   refine o_q T2 (o_f32 m 554 x y z frmL toL kq x0 x1 y0 y1 nn sn pp gt (1 : Int32) [(.int gt)]) (fun _ k => XS.iload X2.here hx rfl (hb hby at_552) rfl k) ?_
   refine o_q T2 (o_f32 m 556 x y z frmL toL kq x0 x1 y0 y1 nn sn pp gt (1 : Int32) [(.int (1 : Int32)), (.int gt)]) (fun _ k => XS.iload X2.here hx rfl (hb hby at_554) rfl k) ?_
   refine o_q T2 (o_f32 m 559 x y z frmL toL kq x0 x1 y0 y1 nn sn pp gt (1 : Int32) []) (fun _ k => XS.icmpNo X2.here hx rfl (hb hby at_556) rfl (teq hgt).2 k) ?_
   refine o_q T2 (o_f32 m 560 x y z frmL toL kq x0 x1 y0 y1 nn sn pp gt (1 : Int32) [(.int (1 : Int32))]) (fun _ k => XS.iconst X2.here hx rfl (hb hby at_559) k) ?_
   refine o_q T2 (o_f32 m 564 x y z frmL toL kq x0 x1 y0 y1 nn sn pp gt (1 : Int32) [(.int (1 : Int32))]) (fun _ k => XS.goto X2.here hx rfl (pc0 := 560) (pc' := 564) rfl (hb hby at_560) (by decide) (by decide) k) ?_
   exact o_retN X2 hx hlk (t := .boolean) hret (by simp) (hb hby at_564) ⟨rfl, NL⟩ (by decide) (by decide)
  ·rw [if_neg c1] at st2
   refine o_q T2 (o_f31 m 430 x y z frmL toL kq x0 x1 y0 y1 nn sn pp gt [(.int (0 : Int32))]) st2 ?_
   refine o_q T2 (o_f31 m 433 x y z frmL toL kq x0 x1 y0 y1 nn sn pp gt []) (fun _ k => XS.ifNo X2.here hx rfl (hb hby at_430) rfl ((if0 _ _).trans (teq (by decide : (0 : Int32) = (0 : Int32))).2) k) ?_
   exact o_J6 Z a0 hw n0 x y z frmL toL kq x0 x1 y0 y1 nn sn pp gt hx hby hml hZ hown hret hlk X2 e2 NL (hg.trans (by rw [o_w5, if_neg (fun q => c1 q.2)]))
 ·rw [if_neg c0] at st1
  refine o_q T1 (o_f31 m 414 x y z frmL toL kq x0 x1 y0 y1 nn sn pp gt [(.int (0 : Int32))]) st1 ?_
  refine o_q T1 (o_f31 m 433 x y z frmL toL kq x0 x1 y0 y1 nn sn pp gt []) (fun _ k => XS.ifYes X1.here hx rfl (pc0 := 414) (pc' := 433) rfl (hb hby at_414) rfl ((if0 _ _).trans (teq (by decide : (0 : Int32) = (0 : Int32))).1) (by decide) (by decide) k) ?_
  exact o_J6 Z a0 hw n0 x y z frmL toL kq x0 x1 y0 y1 nn sn pp gt hx hby hml hZ hown hret hlk X1 e1 NL (hg.trans (by rw [o_w5, if_neg (fun q => c0 q.1)]))
set_option maxRecDepth 65536 in
set_option maxHeartbeats 40000000 in
theorem o_J4 {p : Program} {l : Launch} {e : Env} {s : State} {m : MethodId} {below : List Frame} {meth : Method} {c : Code} (Z : State) (a0 : Array Value) (hw : ∀ d ∈ tables_1, d.before a0 Z = true) (n0 : Nat) (x y z frmL toL : Int64) (kq : Int32) (x0 x1 y0 y1 : Int64) (nn sn : Int32) (pp : Addr) (gt : Int32)
  (hx : p.tables.exec = Jvm.exec) (hby : c.code = code) (hml : c.maxLocals = maxLocals) (hZ : Z.Warmed39 s.vm) (hown : s.vm.findClass o_n5 = some m.cls) (hret : meth.sig.returnType = ret) (hlk : meth.locks = false) {T : State} {locs : List Loc} {hh : Heap} (X0 : Stand p l e room_1 s m #[(.long x), (.long y), (.long z), (.long frmL), (.long toL), (.int kq)] below meth c T locs 12 258) (e0 : T.heap = hh) (NL : Fr n0 locs) (hg : gt = o_w4 nn sn x0 x1 y0 y1 frmL toL) :
  o_G p e below s (fun v h L => v = some (.int (1 : Int32)) ∧ Fr n0 L) 32 448 T (o_f31 m 379 x y z frmL toL kq x0 x1 y0 y1 nn sn pp gt []) := by
 refine o_q T (o_f31 m 381 x y z frmL toL kq x0 x1 y0 y1 nn sn pp gt [(.int sn)]) (fun _ k => XS.iload X0.here hx rfl (hb hby at_379) rfl k) ?_
 refine o_q T (o_f31 m 383 x y z frmL toL kq x0 x1 y0 y1 nn sn pp gt [(.int nn), (.int sn)]) (fun _ k => XS.iload X0.here hx rfl (hb hby at_381) rfl k) ?_
 refine o_q T (o_f31 m 384 x y z frmL toL kq x0 x1 y0 y1 nn sn pp gt [(.int (4 : Int32)), (.int nn), (.int sn)]) (fun _ k => XS.iconst X0.here hx rfl (hb hby at_383) k) ?_
 obtain ⟨v1, T1, L1, hQ1, X1, st1⟩ := o_callS X0 hx hZ e0 hown (o_m hw 133 rfl) (o_m hw 134 rfl) (by decide) (o_m hw 136 rfl) (o_m hw 135 rfl) (o_after l Z a0 hw sn nn (4 : Int32) hh) (g := (o_f31 m 384 x y z frmL toL kq x0 x1 y0 y1 nn sn pp gt [(.int (4 : Int32)), (.int nn), (.int sn)])) rfl (by rw [hml]; rfl) rfl (argsL := [(.int sn), (.int nn), (.int (4 : Int32))]) (rest := []) rfl (lenOf o_pd5 rfl) rfl (hb hby at_384) (o_b rfl) (o_b rfl) (o_b rfl) (o_b rfl)
 obtain ⟨rfl, rfl, e1⟩ := hQ1
 rw [List.append_nil] at X1
 by_cases c0 : (sn < (4 : Int32) ∧ ¬ nn < (4 : Int32))
 ·rw [if_pos c0] at st1
  refine o_q T1 (o_f31 m 387 x y z frmL toL kq x0 x1 y0 y1 nn sn pp gt [(.int (1 : Int32))]) st1 ?_
  refine o_q T1 (o_f31 m 390 x y z frmL toL kq x0 x1 y0 y1 nn sn pp gt []) (fun _ k => XS.ifNo X1.here hx rfl (hb hby at_387) rfl ((if0 _ _).trans (feq (by decide : ¬ ((1 : Int32) = (0 : Int32)))).1) k) ?_
  refine o_q T1 (o_f31 m 393 x y z frmL toL kq x0 x1 y0 y1 nn sn pp gt [(.long (-9223372036854775808 : Int64))]) (fun _ k => X1.ldc2Long hx hown (mvT hZ (o_m hw 153 rfl)) (g := (o_f31 m 390 x y z frmL toL kq x0 x1 y0 y1 nn sn pp gt [])) rfl (hb hby at_390) _ k) ?_
  refine o_q T1 (o_f31 m 396 x y z frmL toL kq x0 x1 y0 y1 nn sn pp gt [(.long (-9223372036854775807 : Int64)), (.long (-9223372036854775808 : Int64))]) (fun _ k => X1.ldc2Long hx hown (mvT hZ (o_m hw 154 rfl)) (g := (o_f31 m 393 x y z frmL toL kq x0 x1 y0 y1 nn sn pp gt [(.long (-9223372036854775808 : Int64))])) rfl (hb hby at_393) _ k) ?_
  refine o_q T1 (o_f31 m 398 x y z frmL toL kq x0 x1 y0 y1 nn sn pp gt [(.long frmL), (.long (-9223372036854775807 : Int64)), (.long (-9223372036854775808 : Int64))]) (fun _ k => XS.lload X1.here hx rfl (hb hby at_396) rfl k) ?_
  refine o_q T1 (o_f31 m 400 x y z frmL toL kq x0 x1 y0 y1 nn sn pp gt [(.long toL), (.long frmL), (.long (-9223372036854775807 : Int64)), (.long (-9223372036854775808 : Int64))]) (fun _ k => XS.lload X1.here hx rfl (hb hby at_398) rfl k) ?_
  obtain ⟨v2, T2, L2, hQ2, X2, st2⟩ := o_callS X1 hx hZ e1 hown (o_m hw 137 rfl) (o_m hw 138 rfl) (by decide) (o_m hw 139 rfl) (o_m hw 135 rfl) (o_meets l Z a0 hw (-9223372036854775808 : Int64) (-9223372036854775807 : Int64) frmL toL hh) (g := (o_f31 m 400 x y z frmL toL kq x0 x1 y0 y1 nn sn pp gt [(.long toL), (.long frmL), (.long (-9223372036854775807 : Int64)), (.long (-9223372036854775808 : Int64))])) rfl (by rw [hml]; rfl) rfl (argsL := [(.long (-9223372036854775808 : Int64)), (.long (-9223372036854775807 : Int64)), (.long frmL), (.long toL)]) (rest := []) rfl (lenOf o_pd11 rfl) rfl (hb hby at_400) (o_b rfl) (o_b rfl) (o_b rfl) (o_b rfl)
  obtain ⟨rfl, rfl, e2⟩ := hQ2
  rw [List.append_nil] at X2
  by_cases c1 : ((-9223372036854775808 : Int64) < toL ∧ frmL < (-9223372036854775807 : Int64))
  ·rw [if_pos c1] at st2
   refine o_q T2 (o_f31 m 403 x y z frmL toL kq x0 x1 y0 y1 nn sn pp gt [(.int (1 : Int32))]) st2 ?_
   refine o_q T2 (o_f31 m 545 x y z frmL toL kq x0 x1 y0 y1 nn sn pp gt []) (fun _ k => XS.ifYes X2.here hx rfl (pc0 := 403) (pc' := 545) rfl (hb hby at_403) rfl ((if0 _ _).trans (feq (by decide : ¬ ((1 : Int32) = (0 : Int32)))).2) (by decide) (by decide) k) ?_
   refine o_q T2 (o_f31 m 546 x y z frmL toL kq x0 x1 y0 y1 nn sn pp gt [(.int (1 : Int32))]) (fun _ k => XS.iconst X2.here hx rfl (hb hby at_545) k) ?_
   refine o_q T2 (o_f31 m 550 x y z frmL toL kq x0 x1 y0 y1 nn sn pp gt [(.int (1 : Int32))]) (fun _ k => XS.goto X2.here hx rfl (pc0 := 546) (pc' := 550) rfl (hb hby at_546) (by decide) (by decide) k) ?_
   have hgt : gt = (1 : Int32) := hg.trans (by rw [o_w4, if_pos ⟨c0, c1⟩])
   refine o_q T2 (o_f32 m 552 x y z frmL toL kq x0 x1 y0 y1 nn sn pp gt (1 : Int32) []) (fun _ k => XS.istore X2.here hx rfl (hb hby at_550) rfl (l' := (o_t32 x y z frmL toL kq x0 x1 y0 y1 nn sn pp gt (1 : Int32))) rfl k) ?_
   refine o_q T2 (o_f32 m 554 x y z frmL toL kq x0 x1 y0 y1 nn sn pp gt (1 : Int32) [(.int gt)]) (fun _ k => XS.iload X2.here hx rfl (hb hby at_552) rfl k) ?_
   refine o_q T2 (o_f32 m 556 x y z frmL toL kq x0 x1 y0 y1 nn sn pp gt (1 : Int32) [(.int (1 : Int32)), (.int gt)]) (fun _ k => XS.iload X2.here hx rfl (hb hby at_554) rfl k) ?_
   refine o_q T2 (o_f32 m 559 x y z frmL toL kq x0 x1 y0 y1 nn sn pp gt (1 : Int32) []) (fun _ k => XS.icmpNo X2.here hx rfl (hb hby at_556) rfl (teq hgt).2 k) ?_
   refine o_q T2 (o_f32 m 560 x y z frmL toL kq x0 x1 y0 y1 nn sn pp gt (1 : Int32) [(.int (1 : Int32))]) (fun _ k => XS.iconst X2.here hx rfl (hb hby at_559) k) ?_
   refine o_q T2 (o_f32 m 564 x y z frmL toL kq x0 x1 y0 y1 nn sn pp gt (1 : Int32) [(.int (1 : Int32))]) (fun _ k => XS.goto X2.here hx rfl (pc0 := 560) (pc' := 564) rfl (hb hby at_560) (by decide) (by decide) k) ?_
   exact o_retN X2 hx hlk (t := .boolean) hret (by simp) (hb hby at_564) ⟨rfl, NL⟩ (by decide) (by decide)
  ·rw [if_neg c1] at st2
   refine o_q T2 (o_f31 m 403 x y z frmL toL kq x0 x1 y0 y1 nn sn pp gt [(.int (0 : Int32))]) st2 ?_
   refine o_q T2 (o_f31 m 406 x y z frmL toL kq x0 x1 y0 y1 nn sn pp gt []) (fun _ k => XS.ifNo X2.here hx rfl (hb hby at_403) rfl ((if0 _ _).trans (teq (by decide : (0 : Int32) = (0 : Int32))).2) k) ?_
   exact o_J5 Z a0 hw n0 x y z frmL toL kq x0 x1 y0 y1 nn sn pp gt hx hby hml hZ hown hret hlk X2 e2 NL (hg.trans (by rw [o_w4, if_neg (fun q => c1 q.2)]))
 ·rw [if_neg c0] at st1
  refine o_q T1 (o_f31 m 387 x y z frmL toL kq x0 x1 y0 y1 nn sn pp gt [(.int (0 : Int32))]) st1 ?_
  refine o_q T1 (o_f31 m 406 x y z frmL toL kq x0 x1 y0 y1 nn sn pp gt []) (fun _ k => XS.ifYes X1.here hx rfl (pc0 := 387) (pc' := 406) rfl (hb hby at_387) rfl ((if0 _ _).trans (teq (by decide : (0 : Int32) = (0 : Int32))).1) (by decide) (by decide) k) ?_
  exact o_J5 Z a0 hw n0 x y z frmL toL kq x0 x1 y0 y1 nn sn pp gt hx hby hml hZ hown hret hlk X1 e1 NL (hg.trans (by rw [o_w4, if_neg (fun q => c0 q.1)]))
set_option maxRecDepth 65536 in
set_option maxHeartbeats 40000000 in
theorem o_J3 {p : Program} {l : Launch} {e : Env} {s : State} {m : MethodId} {below : List Frame} {meth : Method} {c : Code} (Z : State) (a0 : Array Value) (hw : ∀ d ∈ tables_1, d.before a0 Z = true) (n0 : Nat) (x y z frmL toL : Int64) (kq : Int32) (x0 x1 y0 y1 : Int64) (nn sn : Int32) (pp : Addr) (gt : Int32)
  (hx : p.tables.exec = Jvm.exec) (hby : c.code = code) (hml : c.maxLocals = maxLocals) (hZ : Z.Warmed39 s.vm) (hown : s.vm.findClass o_n5 = some m.cls) (hret : meth.sig.returnType = ret) (hlk : meth.locks = false) {T : State} {locs : List Loc} {hh : Heap} (X0 : Stand p l e room_1 s m #[(.long x), (.long y), (.long z), (.long frmL), (.long toL), (.int kq)] below meth c T locs 12 258) (e0 : T.heap = hh) (NL : Fr n0 locs) (hg : gt = o_w3 nn sn x0 x1 y0 y1 frmL toL) :
  o_G p e below s (fun v h L => v = some (.int (1 : Int32)) ∧ Fr n0 L) 32 448 T (o_f31 m 356 x y z frmL toL kq x0 x1 y0 y1 nn sn pp gt []) := by
 refine o_q T (o_f31 m 358 x y z frmL toL kq x0 x1 y0 y1 nn sn pp gt [(.int sn)]) (fun _ k => XS.iload X0.here hx rfl (hb hby at_356) rfl k) ?_
 refine o_q T (o_f31 m 360 x y z frmL toL kq x0 x1 y0 y1 nn sn pp gt [(.int nn), (.int sn)]) (fun _ k => XS.iload X0.here hx rfl (hb hby at_358) rfl k) ?_
 refine o_q T (o_f31 m 361 x y z frmL toL kq x0 x1 y0 y1 nn sn pp gt [(.int (3 : Int32)), (.int nn), (.int sn)]) (fun _ k => XS.iconst X0.here hx rfl (hb hby at_360) k) ?_
 obtain ⟨v1, T1, L1, hQ1, X1, st1⟩ := o_callS X0 hx hZ e0 hown (o_m hw 133 rfl) (o_m hw 134 rfl) (by decide) (o_m hw 136 rfl) (o_m hw 135 rfl) (o_after l Z a0 hw sn nn (3 : Int32) hh) (g := (o_f31 m 361 x y z frmL toL kq x0 x1 y0 y1 nn sn pp gt [(.int (3 : Int32)), (.int nn), (.int sn)])) rfl (by rw [hml]; rfl) rfl (argsL := [(.int sn), (.int nn), (.int (3 : Int32))]) (rest := []) rfl (lenOf o_pd5 rfl) rfl (hb hby at_361) (o_b rfl) (o_b rfl) (o_b rfl) (o_b rfl)
 obtain ⟨rfl, rfl, e1⟩ := hQ1
 rw [List.append_nil] at X1
 by_cases c0 : (sn < (3 : Int32) ∧ ¬ nn < (3 : Int32))
 ·rw [if_pos c0] at st1
  refine o_q T1 (o_f31 m 364 x y z frmL toL kq x0 x1 y0 y1 nn sn pp gt [(.int (1 : Int32))]) st1 ?_
  refine o_q T1 (o_f31 m 367 x y z frmL toL kq x0 x1 y0 y1 nn sn pp gt []) (fun _ k => XS.ifNo X1.here hx rfl (hb hby at_364) rfl ((if0 _ _).trans (feq (by decide : ¬ ((1 : Int32) = (0 : Int32)))).1) k) ?_
  refine o_q T1 (o_f31 m 368 x y z frmL toL kq x0 x1 y0 y1 nn sn pp gt [(.long (0 : Int64))]) (fun _ k => XS.lconst X1.here hx rfl (hb hby at_367) k) ?_
  refine o_q T1 (o_f31 m 369 x y z frmL toL kq x0 x1 y0 y1 nn sn pp gt [(.long (1 : Int64)), (.long (0 : Int64))]) (fun _ k => XS.lconst X1.here hx rfl (hb hby at_368) k) ?_
  refine o_q T1 (o_f31 m 371 x y z frmL toL kq x0 x1 y0 y1 nn sn pp gt [(.long frmL), (.long (1 : Int64)), (.long (0 : Int64))]) (fun _ k => XS.lload X1.here hx rfl (hb hby at_369) rfl k) ?_
  refine o_q T1 (o_f31 m 373 x y z frmL toL kq x0 x1 y0 y1 nn sn pp gt [(.long toL), (.long frmL), (.long (1 : Int64)), (.long (0 : Int64))]) (fun _ k => XS.lload X1.here hx rfl (hb hby at_371) rfl k) ?_
  obtain ⟨v2, T2, L2, hQ2, X2, st2⟩ := o_callS X1 hx hZ e1 hown (o_m hw 137 rfl) (o_m hw 138 rfl) (by decide) (o_m hw 139 rfl) (o_m hw 135 rfl) (o_meets l Z a0 hw (0 : Int64) (1 : Int64) frmL toL hh) (g := (o_f31 m 373 x y z frmL toL kq x0 x1 y0 y1 nn sn pp gt [(.long toL), (.long frmL), (.long (1 : Int64)), (.long (0 : Int64))])) rfl (by rw [hml]; rfl) rfl (argsL := [(.long (0 : Int64)), (.long (1 : Int64)), (.long frmL), (.long toL)]) (rest := []) rfl (lenOf o_pd11 rfl) rfl (hb hby at_373) (o_b rfl) (o_b rfl) (o_b rfl) (o_b rfl)
  obtain ⟨rfl, rfl, e2⟩ := hQ2
  rw [List.append_nil] at X2
  by_cases c1 : ((0 : Int64) < toL ∧ frmL < (1 : Int64))
  ·rw [if_pos c1] at st2
   refine o_q T2 (o_f31 m 376 x y z frmL toL kq x0 x1 y0 y1 nn sn pp gt [(.int (1 : Int32))]) st2 ?_
   refine o_q T2 (o_f31 m 545 x y z frmL toL kq x0 x1 y0 y1 nn sn pp gt []) (fun _ k => XS.ifYes X2.here hx rfl (pc0 := 376) (pc' := 545) rfl (hb hby at_376) rfl ((if0 _ _).trans (feq (by decide : ¬ ((1 : Int32) = (0 : Int32)))).2) (by decide) (by decide) k) ?_
   refine o_q T2 (o_f31 m 546 x y z frmL toL kq x0 x1 y0 y1 nn sn pp gt [(.int (1 : Int32))]) (fun _ k => XS.iconst X2.here hx rfl (hb hby at_545) k) ?_
   refine o_q T2 (o_f31 m 550 x y z frmL toL kq x0 x1 y0 y1 nn sn pp gt [(.int (1 : Int32))]) (fun _ k => XS.goto X2.here hx rfl (pc0 := 546) (pc' := 550) rfl (hb hby at_546) (by decide) (by decide) k) ?_
   have hgt : gt = (1 : Int32) := hg.trans (by rw [o_w3, if_pos ⟨c0, c1⟩])
   refine o_q T2 (o_f32 m 552 x y z frmL toL kq x0 x1 y0 y1 nn sn pp gt (1 : Int32) []) (fun _ k => XS.istore X2.here hx rfl (hb hby at_550) rfl (l' := (o_t32 x y z frmL toL kq x0 x1 y0 y1 nn sn pp gt (1 : Int32))) rfl k) ?_
   refine o_q T2 (o_f32 m 554 x y z frmL toL kq x0 x1 y0 y1 nn sn pp gt (1 : Int32) [(.int gt)]) (fun _ k => XS.iload X2.here hx rfl (hb hby at_552) rfl k) ?_
   refine o_q T2 (o_f32 m 556 x y z frmL toL kq x0 x1 y0 y1 nn sn pp gt (1 : Int32) [(.int (1 : Int32)), (.int gt)]) (fun _ k => XS.iload X2.here hx rfl (hb hby at_554) rfl k) ?_
   refine o_q T2 (o_f32 m 559 x y z frmL toL kq x0 x1 y0 y1 nn sn pp gt (1 : Int32) []) (fun _ k => XS.icmpNo X2.here hx rfl (hb hby at_556) rfl (teq hgt).2 k) ?_
   refine o_q T2 (o_f32 m 560 x y z frmL toL kq x0 x1 y0 y1 nn sn pp gt (1 : Int32) [(.int (1 : Int32))]) (fun _ k => XS.iconst X2.here hx rfl (hb hby at_559) k) ?_
   refine o_q T2 (o_f32 m 564 x y z frmL toL kq x0 x1 y0 y1 nn sn pp gt (1 : Int32) [(.int (1 : Int32))]) (fun _ k => XS.goto X2.here hx rfl (pc0 := 560) (pc' := 564) rfl (hb hby at_560) (by decide) (by decide) k) ?_
   exact o_retN X2 hx hlk (t := .boolean) hret (by simp) (hb hby at_564) ⟨rfl, NL⟩ (by decide) (by decide)
  ·rw [if_neg c1] at st2
   refine o_q T2 (o_f31 m 376 x y z frmL toL kq x0 x1 y0 y1 nn sn pp gt [(.int (0 : Int32))]) st2 ?_
   refine o_q T2 (o_f31 m 379 x y z frmL toL kq x0 x1 y0 y1 nn sn pp gt []) (fun _ k => XS.ifNo X2.here hx rfl (hb hby at_376) rfl ((if0 _ _).trans (teq (by decide : (0 : Int32) = (0 : Int32))).2) k) ?_
   exact o_J4 Z a0 hw n0 x y z frmL toL kq x0 x1 y0 y1 nn sn pp gt hx hby hml hZ hown hret hlk X2 e2 NL (hg.trans (by rw [o_w3, if_neg (fun q => c1 q.2)]))
 ·rw [if_neg c0] at st1
  refine o_q T1 (o_f31 m 364 x y z frmL toL kq x0 x1 y0 y1 nn sn pp gt [(.int (0 : Int32))]) st1 ?_
  refine o_q T1 (o_f31 m 379 x y z frmL toL kq x0 x1 y0 y1 nn sn pp gt []) (fun _ k => XS.ifYes X1.here hx rfl (pc0 := 364) (pc' := 379) rfl (hb hby at_364) rfl ((if0 _ _).trans (teq (by decide : (0 : Int32) = (0 : Int32))).1) (by decide) (by decide) k) ?_
  exact o_J4 Z a0 hw n0 x y z frmL toL kq x0 x1 y0 y1 nn sn pp gt hx hby hml hZ hown hret hlk X1 e1 NL (hg.trans (by rw [o_w3, if_neg (fun q => c0 q.1)]))
set_option maxRecDepth 65536 in
set_option maxHeartbeats 40000000 in
theorem o_J2 {p : Program} {l : Launch} {e : Env} {s : State} {m : MethodId} {below : List Frame} {meth : Method} {c : Code} (Z : State) (a0 : Array Value) (hw : ∀ d ∈ tables_1, d.before a0 Z = true) (n0 : Nat) (x y z frmL toL : Int64) (kq : Int32) (x0 x1 y0 y1 : Int64) (nn sn : Int32) (pp : Addr) (gt : Int32)
  (hx : p.tables.exec = Jvm.exec) (hby : c.code = code) (hml : c.maxLocals = maxLocals) (hZ : Z.Warmed39 s.vm) (hown : s.vm.findClass o_n5 = some m.cls) (hret : meth.sig.returnType = ret) (hlk : meth.locks = false) {T : State} {locs : List Loc} {hh : Heap} (X0 : Stand p l e room_1 s m #[(.long x), (.long y), (.long z), (.long frmL), (.long toL), (.int kq)] below meth c T locs 12 258) (e0 : T.heap = hh) (NL : Fr n0 locs) (hg : gt = o_w2 nn sn x0 x1 y0 y1 frmL toL) :
  o_G p e below s (fun v h L => v = some (.int (1 : Int32)) ∧ Fr n0 L) 32 448 T (o_f31 m 331 x y z frmL toL kq x0 x1 y0 y1 nn sn pp gt []) := by
 refine o_q T (o_f31 m 333 x y z frmL toL kq x0 x1 y0 y1 nn sn pp gt [(.int sn)]) (fun _ k => XS.iload X0.here hx rfl (hb hby at_331) rfl k) ?_
 refine o_q T (o_f31 m 335 x y z frmL toL kq x0 x1 y0 y1 nn sn pp gt [(.int nn), (.int sn)]) (fun _ k => XS.iload X0.here hx rfl (hb hby at_333) rfl k) ?_
 refine o_q T (o_f31 m 336 x y z frmL toL kq x0 x1 y0 y1 nn sn pp gt [(.int (2 : Int32)), (.int nn), (.int sn)]) (fun _ k => XS.iconst X0.here hx rfl (hb hby at_335) k) ?_
 obtain ⟨v1, T1, L1, hQ1, X1, st1⟩ := o_callS X0 hx hZ e0 hown (o_m hw 133 rfl) (o_m hw 134 rfl) (by decide) (o_m hw 136 rfl) (o_m hw 135 rfl) (o_after l Z a0 hw sn nn (2 : Int32) hh) (g := (o_f31 m 336 x y z frmL toL kq x0 x1 y0 y1 nn sn pp gt [(.int (2 : Int32)), (.int nn), (.int sn)])) rfl (by rw [hml]; rfl) rfl (argsL := [(.int sn), (.int nn), (.int (2 : Int32))]) (rest := []) rfl (lenOf o_pd5 rfl) rfl (hb hby at_336) (o_b rfl) (o_b rfl) (o_b rfl) (o_b rfl)
 obtain ⟨rfl, rfl, e1⟩ := hQ1
 rw [List.append_nil] at X1
 by_cases c0 : (sn < (2 : Int32) ∧ ¬ nn < (2 : Int32))
 ·rw [if_pos c0] at st1
  refine o_q T1 (o_f31 m 339 x y z frmL toL kq x0 x1 y0 y1 nn sn pp gt [(.int (1 : Int32))]) st1 ?_
  refine o_q T1 (o_f31 m 342 x y z frmL toL kq x0 x1 y0 y1 nn sn pp gt []) (fun _ k => XS.ifNo X1.here hx rfl (hb hby at_339) rfl ((if0 _ _).trans (feq (by decide : ¬ ((1 : Int32) = (0 : Int32)))).1) k) ?_
  refine o_q T1 (o_f31 m 344 x y z frmL toL kq x0 x1 y0 y1 nn sn pp gt [(.long y0)]) (fun _ k => XS.lload X1.here hx rfl (hb hby at_342) rfl k) ?_
  refine o_q T1 (o_f31 m 346 x y z frmL toL kq x0 x1 y0 y1 nn sn pp gt [(.long y1), (.long y0)]) (fun _ k => XS.lload X1.here hx rfl (hb hby at_344) rfl k) ?_
  refine o_q T1 (o_f31 m 348 x y z frmL toL kq x0 x1 y0 y1 nn sn pp gt [(.long frmL), (.long y1), (.long y0)]) (fun _ k => XS.lload X1.here hx rfl (hb hby at_346) rfl k) ?_
  refine o_q T1 (o_f31 m 350 x y z frmL toL kq x0 x1 y0 y1 nn sn pp gt [(.long toL), (.long frmL), (.long y1), (.long y0)]) (fun _ k => XS.lload X1.here hx rfl (hb hby at_348) rfl k) ?_
  obtain ⟨v2, T2, L2, hQ2, X2, st2⟩ := o_callS X1 hx hZ e1 hown (o_m hw 137 rfl) (o_m hw 138 rfl) (by decide) (o_m hw 139 rfl) (o_m hw 135 rfl) (o_meets l Z a0 hw y0 y1 frmL toL hh) (g := (o_f31 m 350 x y z frmL toL kq x0 x1 y0 y1 nn sn pp gt [(.long toL), (.long frmL), (.long y1), (.long y0)])) rfl (by rw [hml]; rfl) rfl (argsL := [(.long y0), (.long y1), (.long frmL), (.long toL)]) (rest := []) rfl (lenOf o_pd11 rfl) rfl (hb hby at_350) (o_b rfl) (o_b rfl) (o_b rfl) (o_b rfl)
  obtain ⟨rfl, rfl, e2⟩ := hQ2
  rw [List.append_nil] at X2
  by_cases c1 : (y0 < toL ∧ frmL < y1)
  ·rw [if_pos c1] at st2
   refine o_q T2 (o_f31 m 353 x y z frmL toL kq x0 x1 y0 y1 nn sn pp gt [(.int (1 : Int32))]) st2 ?_
   refine o_q T2 (o_f31 m 545 x y z frmL toL kq x0 x1 y0 y1 nn sn pp gt []) (fun _ k => XS.ifYes X2.here hx rfl (pc0 := 353) (pc' := 545) rfl (hb hby at_353) rfl ((if0 _ _).trans (feq (by decide : ¬ ((1 : Int32) = (0 : Int32)))).2) (by decide) (by decide) k) ?_
   refine o_q T2 (o_f31 m 546 x y z frmL toL kq x0 x1 y0 y1 nn sn pp gt [(.int (1 : Int32))]) (fun _ k => XS.iconst X2.here hx rfl (hb hby at_545) k) ?_
   refine o_q T2 (o_f31 m 550 x y z frmL toL kq x0 x1 y0 y1 nn sn pp gt [(.int (1 : Int32))]) (fun _ k => XS.goto X2.here hx rfl (pc0 := 546) (pc' := 550) rfl (hb hby at_546) (by decide) (by decide) k) ?_
   have hgt : gt = (1 : Int32) := hg.trans (by rw [o_w2, if_pos ⟨c0, c1⟩])
   refine o_q T2 (o_f32 m 552 x y z frmL toL kq x0 x1 y0 y1 nn sn pp gt (1 : Int32) []) (fun _ k => XS.istore X2.here hx rfl (hb hby at_550) rfl (l' := (o_t32 x y z frmL toL kq x0 x1 y0 y1 nn sn pp gt (1 : Int32))) rfl k) ?_
   refine o_q T2 (o_f32 m 554 x y z frmL toL kq x0 x1 y0 y1 nn sn pp gt (1 : Int32) [(.int gt)]) (fun _ k => XS.iload X2.here hx rfl (hb hby at_552) rfl k) ?_
   refine o_q T2 (o_f32 m 556 x y z frmL toL kq x0 x1 y0 y1 nn sn pp gt (1 : Int32) [(.int (1 : Int32)), (.int gt)]) (fun _ k => XS.iload X2.here hx rfl (hb hby at_554) rfl k) ?_
   refine o_q T2 (o_f32 m 559 x y z frmL toL kq x0 x1 y0 y1 nn sn pp gt (1 : Int32) []) (fun _ k => XS.icmpNo X2.here hx rfl (hb hby at_556) rfl (teq hgt).2 k) ?_
   refine o_q T2 (o_f32 m 560 x y z frmL toL kq x0 x1 y0 y1 nn sn pp gt (1 : Int32) [(.int (1 : Int32))]) (fun _ k => XS.iconst X2.here hx rfl (hb hby at_559) k) ?_
   refine o_q T2 (o_f32 m 564 x y z frmL toL kq x0 x1 y0 y1 nn sn pp gt (1 : Int32) [(.int (1 : Int32))]) (fun _ k => XS.goto X2.here hx rfl (pc0 := 560) (pc' := 564) rfl (hb hby at_560) (by decide) (by decide) k) ?_
   exact o_retN X2 hx hlk (t := .boolean) hret (by simp) (hb hby at_564) ⟨rfl, NL⟩ (by decide) (by decide)
  ·rw [if_neg c1] at st2
   refine o_q T2 (o_f31 m 353 x y z frmL toL kq x0 x1 y0 y1 nn sn pp gt [(.int (0 : Int32))]) st2 ?_
   refine o_q T2 (o_f31 m 356 x y z frmL toL kq x0 x1 y0 y1 nn sn pp gt []) (fun _ k => XS.ifNo X2.here hx rfl (hb hby at_353) rfl ((if0 _ _).trans (teq (by decide : (0 : Int32) = (0 : Int32))).2) k) ?_
   exact o_J3 Z a0 hw n0 x y z frmL toL kq x0 x1 y0 y1 nn sn pp gt hx hby hml hZ hown hret hlk X2 e2 NL (hg.trans (by rw [o_w2, if_neg (fun q => c1 q.2)]))
 ·rw [if_neg c0] at st1
  refine o_q T1 (o_f31 m 339 x y z frmL toL kq x0 x1 y0 y1 nn sn pp gt [(.int (0 : Int32))]) st1 ?_
  refine o_q T1 (o_f31 m 356 x y z frmL toL kq x0 x1 y0 y1 nn sn pp gt []) (fun _ k => XS.ifYes X1.here hx rfl (pc0 := 339) (pc' := 356) rfl (hb hby at_339) rfl ((if0 _ _).trans (teq (by decide : (0 : Int32) = (0 : Int32))).1) (by decide) (by decide) k) ?_
  exact o_J3 Z a0 hw n0 x y z frmL toL kq x0 x1 y0 y1 nn sn pp gt hx hby hml hZ hown hret hlk X1 e1 NL (hg.trans (by rw [o_w2, if_neg (fun q => c0 q.1)]))
set_option maxRecDepth 65536 in
set_option maxHeartbeats 40000000 in
theorem o_J1 {p : Program} {l : Launch} {e : Env} {s : State} {m : MethodId} {below : List Frame} {meth : Method} {c : Code} (Z : State) (a0 : Array Value) (hw : ∀ d ∈ tables_1, d.before a0 Z = true) (n0 : Nat) (x y z frmL toL : Int64) (kq : Int32) (x0 x1 y0 y1 : Int64) (nn sn : Int32) (pp : Addr) (gt : Int32)
  (hx : p.tables.exec = Jvm.exec) (hby : c.code = code) (hml : c.maxLocals = maxLocals) (hZ : Z.Warmed39 s.vm) (hown : s.vm.findClass o_n5 = some m.cls) (hret : meth.sig.returnType = ret) (hlk : meth.locks = false) {T : State} {locs : List Loc} {hh : Heap} (X0 : Stand p l e room_1 s m #[(.long x), (.long y), (.long z), (.long frmL), (.long toL), (.int kq)] below meth c T locs 12 258) (e0 : T.heap = hh) (NL : Fr n0 locs) (hg : gt = o_w1 nn sn x0 x1 y0 y1 frmL toL) :
  o_G p e below s (fun v h L => v = some (.int (1 : Int32)) ∧ Fr n0 L) 32 448 T (o_f31 m 306 x y z frmL toL kq x0 x1 y0 y1 nn sn pp gt []) := by
 refine o_q T (o_f31 m 308 x y z frmL toL kq x0 x1 y0 y1 nn sn pp gt [(.int sn)]) (fun _ k => XS.iload X0.here hx rfl (hb hby at_306) rfl k) ?_
 refine o_q T (o_f31 m 310 x y z frmL toL kq x0 x1 y0 y1 nn sn pp gt [(.int nn), (.int sn)]) (fun _ k => XS.iload X0.here hx rfl (hb hby at_308) rfl k) ?_
 refine o_q T (o_f31 m 311 x y z frmL toL kq x0 x1 y0 y1 nn sn pp gt [(.int (1 : Int32)), (.int nn), (.int sn)]) (fun _ k => XS.iconst X0.here hx rfl (hb hby at_310) k) ?_
 obtain ⟨v1, T1, L1, hQ1, X1, st1⟩ := o_callS X0 hx hZ e0 hown (o_m hw 133 rfl) (o_m hw 134 rfl) (by decide) (o_m hw 136 rfl) (o_m hw 135 rfl) (o_after l Z a0 hw sn nn (1 : Int32) hh) (g := (o_f31 m 311 x y z frmL toL kq x0 x1 y0 y1 nn sn pp gt [(.int (1 : Int32)), (.int nn), (.int sn)])) rfl (by rw [hml]; rfl) rfl (argsL := [(.int sn), (.int nn), (.int (1 : Int32))]) (rest := []) rfl (lenOf o_pd5 rfl) rfl (hb hby at_311) (o_b rfl) (o_b rfl) (o_b rfl) (o_b rfl)
 obtain ⟨rfl, rfl, e1⟩ := hQ1
 rw [List.append_nil] at X1
 by_cases c0 : (sn < (1 : Int32) ∧ ¬ nn < (1 : Int32))
 ·rw [if_pos c0] at st1
  refine o_q T1 (o_f31 m 314 x y z frmL toL kq x0 x1 y0 y1 nn sn pp gt [(.int (1 : Int32))]) st1 ?_
  refine o_q T1 (o_f31 m 317 x y z frmL toL kq x0 x1 y0 y1 nn sn pp gt []) (fun _ k => XS.ifNo X1.here hx rfl (hb hby at_314) rfl ((if0 _ _).trans (feq (by decide : ¬ ((1 : Int32) = (0 : Int32)))).1) k) ?_
  refine o_q T1 (o_f31 m 319 x y z frmL toL kq x0 x1 y0 y1 nn sn pp gt [(.long x0)]) (fun _ k => XS.lload X1.here hx rfl (hb hby at_317) rfl k) ?_
  refine o_q T1 (o_f31 m 321 x y z frmL toL kq x0 x1 y0 y1 nn sn pp gt [(.long x1), (.long x0)]) (fun _ k => XS.lload X1.here hx rfl (hb hby at_319) rfl k) ?_
  refine o_q T1 (o_f31 m 323 x y z frmL toL kq x0 x1 y0 y1 nn sn pp gt [(.long frmL), (.long x1), (.long x0)]) (fun _ k => XS.lload X1.here hx rfl (hb hby at_321) rfl k) ?_
  refine o_q T1 (o_f31 m 325 x y z frmL toL kq x0 x1 y0 y1 nn sn pp gt [(.long toL), (.long frmL), (.long x1), (.long x0)]) (fun _ k => XS.lload X1.here hx rfl (hb hby at_323) rfl k) ?_
  obtain ⟨v2, T2, L2, hQ2, X2, st2⟩ := o_callS X1 hx hZ e1 hown (o_m hw 137 rfl) (o_m hw 138 rfl) (by decide) (o_m hw 139 rfl) (o_m hw 135 rfl) (o_meets l Z a0 hw x0 x1 frmL toL hh) (g := (o_f31 m 325 x y z frmL toL kq x0 x1 y0 y1 nn sn pp gt [(.long toL), (.long frmL), (.long x1), (.long x0)])) rfl (by rw [hml]; rfl) rfl (argsL := [(.long x0), (.long x1), (.long frmL), (.long toL)]) (rest := []) rfl (lenOf o_pd11 rfl) rfl (hb hby at_325) (o_b rfl) (o_b rfl) (o_b rfl) (o_b rfl)
  obtain ⟨rfl, rfl, e2⟩ := hQ2
  rw [List.append_nil] at X2
  by_cases c1 : (x0 < toL ∧ frmL < x1)
  ·rw [if_pos c1] at st2
   refine o_q T2 (o_f31 m 328 x y z frmL toL kq x0 x1 y0 y1 nn sn pp gt [(.int (1 : Int32))]) st2 ?_
   refine o_q T2 (o_f31 m 545 x y z frmL toL kq x0 x1 y0 y1 nn sn pp gt []) (fun _ k => XS.ifYes X2.here hx rfl (pc0 := 328) (pc' := 545) rfl (hb hby at_328) rfl ((if0 _ _).trans (feq (by decide : ¬ ((1 : Int32) = (0 : Int32)))).2) (by decide) (by decide) k) ?_
   refine o_q T2 (o_f31 m 546 x y z frmL toL kq x0 x1 y0 y1 nn sn pp gt [(.int (1 : Int32))]) (fun _ k => XS.iconst X2.here hx rfl (hb hby at_545) k) ?_
   refine o_q T2 (o_f31 m 550 x y z frmL toL kq x0 x1 y0 y1 nn sn pp gt [(.int (1 : Int32))]) (fun _ k => XS.goto X2.here hx rfl (pc0 := 546) (pc' := 550) rfl (hb hby at_546) (by decide) (by decide) k) ?_
   have hgt : gt = (1 : Int32) := hg.trans (by rw [o_w1, if_pos ⟨c0, c1⟩])
   refine o_q T2 (o_f32 m 552 x y z frmL toL kq x0 x1 y0 y1 nn sn pp gt (1 : Int32) []) (fun _ k => XS.istore X2.here hx rfl (hb hby at_550) rfl (l' := (o_t32 x y z frmL toL kq x0 x1 y0 y1 nn sn pp gt (1 : Int32))) rfl k) ?_
   refine o_q T2 (o_f32 m 554 x y z frmL toL kq x0 x1 y0 y1 nn sn pp gt (1 : Int32) [(.int gt)]) (fun _ k => XS.iload X2.here hx rfl (hb hby at_552) rfl k) ?_
   refine o_q T2 (o_f32 m 556 x y z frmL toL kq x0 x1 y0 y1 nn sn pp gt (1 : Int32) [(.int (1 : Int32)), (.int gt)]) (fun _ k => XS.iload X2.here hx rfl (hb hby at_554) rfl k) ?_
   refine o_q T2 (o_f32 m 559 x y z frmL toL kq x0 x1 y0 y1 nn sn pp gt (1 : Int32) []) (fun _ k => XS.icmpNo X2.here hx rfl (hb hby at_556) rfl (teq hgt).2 k) ?_
   refine o_q T2 (o_f32 m 560 x y z frmL toL kq x0 x1 y0 y1 nn sn pp gt (1 : Int32) [(.int (1 : Int32))]) (fun _ k => XS.iconst X2.here hx rfl (hb hby at_559) k) ?_
   refine o_q T2 (o_f32 m 564 x y z frmL toL kq x0 x1 y0 y1 nn sn pp gt (1 : Int32) [(.int (1 : Int32))]) (fun _ k => XS.goto X2.here hx rfl (pc0 := 560) (pc' := 564) rfl (hb hby at_560) (by decide) (by decide) k) ?_
   exact o_retN X2 hx hlk (t := .boolean) hret (by simp) (hb hby at_564) ⟨rfl, NL⟩ (by decide) (by decide)
  ·rw [if_neg c1] at st2
   refine o_q T2 (o_f31 m 328 x y z frmL toL kq x0 x1 y0 y1 nn sn pp gt [(.int (0 : Int32))]) st2 ?_
   refine o_q T2 (o_f31 m 331 x y z frmL toL kq x0 x1 y0 y1 nn sn pp gt []) (fun _ k => XS.ifNo X2.here hx rfl (hb hby at_328) rfl ((if0 _ _).trans (teq (by decide : (0 : Int32) = (0 : Int32))).2) k) ?_
   exact o_J2 Z a0 hw n0 x y z frmL toL kq x0 x1 y0 y1 nn sn pp gt hx hby hml hZ hown hret hlk X2 e2 NL (hg.trans (by rw [o_w1, if_neg (fun q => c1 q.2)]))
 ·rw [if_neg c0] at st1
  refine o_q T1 (o_f31 m 314 x y z frmL toL kq x0 x1 y0 y1 nn sn pp gt [(.int (0 : Int32))]) st1 ?_
  refine o_q T1 (o_f31 m 331 x y z frmL toL kq x0 x1 y0 y1 nn sn pp gt []) (fun _ k => XS.ifYes X1.here hx rfl (pc0 := 314) (pc' := 331) rfl (hb hby at_314) rfl ((if0 _ _).trans (teq (by decide : (0 : Int32) = (0 : Int32))).1) (by decide) (by decide) k) ?_
  exact o_J2 Z a0 hw n0 x y z frmL toL kq x0 x1 y0 y1 nn sn pp gt hx hby hml hZ hown hret hlk X1 e1 NL (hg.trans (by rw [o_w1, if_neg (fun q => c0 q.1)]))
set_option maxRecDepth 65536 in
set_option maxHeartbeats 40000000 in
theorem o_J0 {p : Program} {l : Launch} {e : Env} {s : State} {m : MethodId} {below : List Frame} {meth : Method} {c : Code} (Z : State) (a0 : Array Value) (hw : ∀ d ∈ tables_1, d.before a0 Z = true) (n0 : Nat) (x y z frmL toL : Int64) (kq : Int32) (x0 x1 y0 y1 : Int64) (nn sn : Int32) (pp : Addr) (gt : Int32)
  (hx : p.tables.exec = Jvm.exec) (hby : c.code = code) (hml : c.maxLocals = maxLocals) (hZ : Z.Warmed39 s.vm) (hown : s.vm.findClass o_n5 = some m.cls) (hret : meth.sig.returnType = ret) (hlk : meth.locks = false) {T : State} {locs : List Loc} {hh : Heap} (X0 : Stand p l e room_1 s m #[(.long x), (.long y), (.long z), (.long frmL), (.long toL), (.int kq)] below meth c T locs 12 258) (e0 : T.heap = hh) (NL : Fr n0 locs) (hg : gt = o_w0 nn sn x0 x1 y0 y1 frmL toL) :
  o_G p e below s (fun v h L => v = some (.int (1 : Int32)) ∧ Fr n0 L) 32 448 T (o_f31 m 296 x y z frmL toL kq x0 x1 y0 y1 nn sn pp gt []) := by
 refine o_q T (o_f31 m 298 x y z frmL toL kq x0 x1 y0 y1 nn sn pp gt [(.int nn)]) (fun _ k => XS.iload X0.here hx rfl (hb hby at_296) rfl k) ?_
 refine o_q T (o_f31 m 300 x y z frmL toL kq x0 x1 y0 y1 nn sn pp gt [(.int sn), (.int nn)]) (fun _ k => XS.iload X0.here hx rfl (hb hby at_298) rfl k) ?_
 refine o_q T (o_f31 m 301 x y z frmL toL kq x0 x1 y0 y1 nn sn pp gt [(.int (nn - sn))]) (fun _ k => XS.isub X0.here hx rfl (hb hby at_300) rfl k) ?_
 refine o_q T (o_f31 m 303 x y z frmL toL kq x0 x1 y0 y1 nn sn pp gt [(.int (8 : Int32)), (.int (nn - sn))]) (fun _ k => XS.bipush X0.here hx rfl (hb hby at_301) k) ?_
 by_cases c0 : (8 : Int32) < (nn - sn)
 ·refine o_q T (o_f31 m 545 x y z frmL toL kq x0 x1 y0 y1 nn sn pp gt []) (fun _ k => XS.icmpYes X0.here hx rfl (pc0 := 303) (pc' := 545) rfl (hb hby at_303) rfl (tlt c0).2.2.1 (by decide) (by decide) k) ?_
  refine o_q T (o_f31 m 546 x y z frmL toL kq x0 x1 y0 y1 nn sn pp gt [(.int (1 : Int32))]) (fun _ k => XS.iconst X0.here hx rfl (hb hby at_545) k) ?_
  refine o_q T (o_f31 m 550 x y z frmL toL kq x0 x1 y0 y1 nn sn pp gt [(.int (1 : Int32))]) (fun _ k => XS.goto X0.here hx rfl (pc0 := 546) (pc' := 550) rfl (hb hby at_546) (by decide) (by decide) k) ?_
  have hgt : gt = (1 : Int32) := hg.trans (by rw [o_w0, if_pos c0])
  refine o_q T (o_f32 m 552 x y z frmL toL kq x0 x1 y0 y1 nn sn pp gt (1 : Int32) []) (fun _ k => XS.istore X0.here hx rfl (hb hby at_550) rfl (l' := (o_t32 x y z frmL toL kq x0 x1 y0 y1 nn sn pp gt (1 : Int32))) rfl k) ?_
  refine o_q T (o_f32 m 554 x y z frmL toL kq x0 x1 y0 y1 nn sn pp gt (1 : Int32) [(.int gt)]) (fun _ k => XS.iload X0.here hx rfl (hb hby at_552) rfl k) ?_
  refine o_q T (o_f32 m 556 x y z frmL toL kq x0 x1 y0 y1 nn sn pp gt (1 : Int32) [(.int (1 : Int32)), (.int gt)]) (fun _ k => XS.iload X0.here hx rfl (hb hby at_554) rfl k) ?_
  refine o_q T (o_f32 m 559 x y z frmL toL kq x0 x1 y0 y1 nn sn pp gt (1 : Int32) []) (fun _ k => XS.icmpNo X0.here hx rfl (hb hby at_556) rfl (teq hgt).2 k) ?_
  refine o_q T (o_f32 m 560 x y z frmL toL kq x0 x1 y0 y1 nn sn pp gt (1 : Int32) [(.int (1 : Int32))]) (fun _ k => XS.iconst X0.here hx rfl (hb hby at_559) k) ?_
  refine o_q T (o_f32 m 564 x y z frmL toL kq x0 x1 y0 y1 nn sn pp gt (1 : Int32) [(.int (1 : Int32))]) (fun _ k => XS.goto X0.here hx rfl (pc0 := 560) (pc' := 564) rfl (hb hby at_560) (by decide) (by decide) k) ?_
  exact o_retN X0 hx hlk (t := .boolean) hret (by simp) (hb hby at_564) ⟨rfl, NL⟩ (by decide) (by decide)
 ·refine o_q T (o_f31 m 306 x y z frmL toL kq x0 x1 y0 y1 nn sn pp gt []) (fun _ k => XS.icmpNo X0.here hx rfl (hb hby at_303) rfl (flt c0).2.2.1 k) ?_
  exact o_J1 Z a0 hw n0 x y z frmL toL kq x0 x1 y0 y1 nn sn pp gt hx hby hml hZ hown hret hlk X0 e0 NL (hg.trans (by rw [o_w0, if_neg c0]))
theorem o_cases2 (i : Int32) (h : 0 ≤ i.toInt ∧ i.toInt < 2) : i = (0 : Int32) ∨ i = (1 : Int32) := by
 rcases (by omega : i.toInt = 0 ∨ i.toInt = 1) with h | h
 all_goals (have q := fun (z : Int32) (e : i.toInt = z.toInt) => Int32.toInt_inj.mp e)
 ·exact Or.inl (q _ (h.trans (by decide)))
 ·exact Or.inr ((q _ (h.trans (by decide))))
set_option maxHeartbeats 4000000 in
theorem o_fin1 (sn : Int32) (h : 0 ≤ sn.toInt ∧ sn.toInt < 2) (x0 x1 y0 y1 frmL toL : Int64) : o_co (o_put (fun _ => 0) (0 + 1) x0 x1 (0 : Int64)) frmL toL 1 sn.toNatClampNeg = o_w0 (1 : Int32) sn x0 x1 y0 y1 frmL toL := by
 rcases o_cases2 sn h with rfl | rfl
 ·rw [show (0 : Int32).toNatClampNeg = 0 from rfl]
  simp +decide [o_co, o_scan, o_put, o_w0, o_w1, o_w2, o_w3, o_w4, o_w5, o_w6, o_w7, o_w8, o_w9, o_w10]
 ·rw [show (1 : Int32).toNatClampNeg = 1 from rfl]
  simp +decide [o_co, o_scan, o_put, o_w0, o_w1, o_w2, o_w3, o_w4, o_w5, o_w6, o_w7, o_w8, o_w9, o_w10]
theorem o_cases3 (i : Int32) (h : 0 ≤ i.toInt ∧ i.toInt < 3) : i = (0 : Int32) ∨ i = (1 : Int32) ∨ i = (2 : Int32) := by
 rcases (by omega : i.toInt = 0 ∨ i.toInt = 1 ∨ i.toInt = 2) with h | h | h
 all_goals (have q := fun (z : Int32) (e : i.toInt = z.toInt) => Int32.toInt_inj.mp e)
 ·exact Or.inl (q _ (h.trans (by decide)))
 ·exact Or.inr (Or.inl (q _ (h.trans (by decide))))
 ·exact Or.inr (Or.inr ((q _ (h.trans (by decide)))))
set_option maxHeartbeats 4000000 in
theorem o_fin2 (sn : Int32) (h : 0 ≤ sn.toInt ∧ sn.toInt < 3) (x0 x1 y0 y1 frmL toL : Int64) : o_co (o_put (o_put (fun _ => 0) (0 + 1) x0 x1 (0 : Int64)) (1 + 1) y0 y1 (0 : Int64)) frmL toL 2 sn.toNatClampNeg = o_w0 (2 : Int32) sn x0 x1 y0 y1 frmL toL := by
 rcases o_cases3 sn h with rfl | rfl | rfl
 ·rw [show (0 : Int32).toNatClampNeg = 0 from rfl]
  simp +decide [o_co, o_scan, o_put, o_w0, o_w1, o_w2, o_w3, o_w4, o_w5, o_w6, o_w7, o_w8, o_w9, o_w10]
 ·rw [show (1 : Int32).toNatClampNeg = 1 from rfl]
  simp +decide [o_co, o_scan, o_put, o_w0, o_w1, o_w2, o_w3, o_w4, o_w5, o_w6, o_w7, o_w8, o_w9, o_w10]
 ·rw [show (2 : Int32).toNatClampNeg = 2 from rfl]
  simp +decide [o_co, o_scan, o_put, o_w0, o_w1, o_w2, o_w3, o_w4, o_w5, o_w6, o_w7, o_w8, o_w9, o_w10]
theorem o_cases4 (i : Int32) (h : 0 ≤ i.toInt ∧ i.toInt < 4) : i = (0 : Int32) ∨ i = (1 : Int32) ∨ i = (2 : Int32) ∨ i = (3 : Int32) := by
 rcases (by omega : i.toInt = 0 ∨ i.toInt = 1 ∨ i.toInt = 2 ∨ i.toInt = 3) with h | h | h | h
 all_goals (have q := fun (z : Int32) (e : i.toInt = z.toInt) => Int32.toInt_inj.mp e)
 ·exact Or.inl (q _ (h.trans (by decide)))
 ·exact Or.inr (Or.inl (q _ (h.trans (by decide))))
 ·exact Or.inr (Or.inr (Or.inl (q _ (h.trans (by decide)))))
 ·exact Or.inr (Or.inr (Or.inr ((q _ (h.trans (by decide))))))
set_option maxHeartbeats 4000000 in
theorem o_fin3 (sn : Int32) (h : 0 ≤ sn.toInt ∧ sn.toInt < 4) (x0 x1 y0 y1 frmL toL : Int64) : o_co (o_put (o_put (o_put (fun _ => 0) (0 + 1) x0 x1 (0 : Int64)) (1 + 1) y0 y1 (0 : Int64)) (2 + 1) (0 : Int64) (1 : Int64) (0 : Int64)) frmL toL 3 sn.toNatClampNeg = o_w0 (3 : Int32) sn x0 x1 y0 y1 frmL toL := by
 rcases o_cases4 sn h with rfl | rfl | rfl | rfl
 ·rw [show (0 : Int32).toNatClampNeg = 0 from rfl]
  simp +decide [o_co, o_scan, o_put, o_w0, o_w1, o_w2, o_w3, o_w4, o_w5, o_w6, o_w7, o_w8, o_w9, o_w10]
 ·rw [show (1 : Int32).toNatClampNeg = 1 from rfl]
  simp +decide [o_co, o_scan, o_put, o_w0, o_w1, o_w2, o_w3, o_w4, o_w5, o_w6, o_w7, o_w8, o_w9, o_w10]
 ·rw [show (2 : Int32).toNatClampNeg = 2 from rfl]
  simp +decide [o_co, o_scan, o_put, o_w0, o_w1, o_w2, o_w3, o_w4, o_w5, o_w6, o_w7, o_w8, o_w9, o_w10]
 ·rw [show (3 : Int32).toNatClampNeg = 3 from rfl]
  simp +decide [o_co, o_scan, o_put, o_w0, o_w1, o_w2, o_w3, o_w4, o_w5, o_w6, o_w7, o_w8, o_w9, o_w10]
theorem o_cases5 (i : Int32) (h : 0 ≤ i.toInt ∧ i.toInt < 5) : i = (0 : Int32) ∨ i = (1 : Int32) ∨ i = (2 : Int32) ∨ i = (3 : Int32) ∨ i = (4 : Int32) := by
 rcases (by omega : i.toInt = 0 ∨ i.toInt = 1 ∨ i.toInt = 2 ∨ i.toInt = 3 ∨ i.toInt = 4) with h | h | h | h | h
 all_goals (have q := fun (z : Int32) (e : i.toInt = z.toInt) => Int32.toInt_inj.mp e)
 ·exact Or.inl (q _ (h.trans (by decide)))
 ·exact Or.inr (Or.inl (q _ (h.trans (by decide))))
 ·exact Or.inr (Or.inr (Or.inl (q _ (h.trans (by decide)))))
 ·exact Or.inr (Or.inr (Or.inr (Or.inl (q _ (h.trans (by decide))))))
 ·exact Or.inr (Or.inr (Or.inr (Or.inr ((q _ (h.trans (by decide)))))))
set_option maxHeartbeats 4000000 in
theorem o_fin4 (sn : Int32) (h : 0 ≤ sn.toInt ∧ sn.toInt < 5) (x0 x1 y0 y1 frmL toL : Int64) : o_co (o_put (o_put (o_put (o_put (fun _ => 0) (0 + 1) x0 x1 (0 : Int64)) (1 + 1) y0 y1 (0 : Int64)) (2 + 1) (0 : Int64) (1 : Int64) (0 : Int64)) (3 + 1) (-9223372036854775808 : Int64) (-9223372036854775807 : Int64) (0 : Int64)) frmL toL 4 sn.toNatClampNeg = o_w0 (4 : Int32) sn x0 x1 y0 y1 frmL toL := by
 rcases o_cases5 sn h with rfl | rfl | rfl | rfl | rfl
 ·rw [show (0 : Int32).toNatClampNeg = 0 from rfl]
  simp +decide [o_co, o_scan, o_put, o_w0, o_w1, o_w2, o_w3, o_w4, o_w5, o_w6, o_w7, o_w8, o_w9, o_w10]
 ·rw [show (1 : Int32).toNatClampNeg = 1 from rfl]
  simp +decide [o_co, o_scan, o_put, o_w0, o_w1, o_w2, o_w3, o_w4, o_w5, o_w6, o_w7, o_w8, o_w9, o_w10]
 ·rw [show (2 : Int32).toNatClampNeg = 2 from rfl]
  simp +decide [o_co, o_scan, o_put, o_w0, o_w1, o_w2, o_w3, o_w4, o_w5, o_w6, o_w7, o_w8, o_w9, o_w10]
 ·rw [show (3 : Int32).toNatClampNeg = 3 from rfl]
  simp +decide [o_co, o_scan, o_put, o_w0, o_w1, o_w2, o_w3, o_w4, o_w5, o_w6, o_w7, o_w8, o_w9, o_w10]
 ·rw [show (4 : Int32).toNatClampNeg = 4 from rfl]
  simp +decide [o_co, o_scan, o_put, o_w0, o_w1, o_w2, o_w3, o_w4, o_w5, o_w6, o_w7, o_w8, o_w9, o_w10]
theorem o_cases6 (i : Int32) (h : 0 ≤ i.toInt ∧ i.toInt < 6) : i = (0 : Int32) ∨ i = (1 : Int32) ∨ i = (2 : Int32) ∨ i = (3 : Int32) ∨ i = (4 : Int32) ∨ i = (5 : Int32) := by
 rcases (by omega : i.toInt = 0 ∨ i.toInt = 1 ∨ i.toInt = 2 ∨ i.toInt = 3 ∨ i.toInt = 4 ∨ i.toInt = 5) with h | h | h | h | h | h
 all_goals (have q := fun (z : Int32) (e : i.toInt = z.toInt) => Int32.toInt_inj.mp e)
 ·exact Or.inl (q _ (h.trans (by decide)))
 ·exact Or.inr (Or.inl (q _ (h.trans (by decide))))
 ·exact Or.inr (Or.inr (Or.inl (q _ (h.trans (by decide)))))
 ·exact Or.inr (Or.inr (Or.inr (Or.inl (q _ (h.trans (by decide))))))
 ·exact Or.inr (Or.inr (Or.inr (Or.inr (Or.inl (q _ (h.trans (by decide)))))))
 ·exact Or.inr (Or.inr (Or.inr (Or.inr (Or.inr ((q _ (h.trans (by decide))))))))
set_option maxHeartbeats 4000000 in
theorem o_fin5 (sn : Int32) (h : 0 ≤ sn.toInt ∧ sn.toInt < 6) (x0 x1 y0 y1 frmL toL : Int64) : o_co (o_put (o_put (o_put (o_put (o_put (fun _ => 0) (0 + 1) x0 x1 (0 : Int64)) (1 + 1) y0 y1 (0 : Int64)) (2 + 1) (0 : Int64) (1 : Int64) (0 : Int64)) (3 + 1) (-9223372036854775808 : Int64) (-9223372036854775807 : Int64) (0 : Int64)) (4 + 1) (9223372036854775806 : Int64) (9223372036854775807 : Int64) (0 : Int64)) frmL toL 5 sn.toNatClampNeg = o_w0 (5 : Int32) sn x0 x1 y0 y1 frmL toL := by
 rcases o_cases6 sn h with rfl | rfl | rfl | rfl | rfl | rfl
 ·rw [show (0 : Int32).toNatClampNeg = 0 from rfl]
  simp +decide [o_co, o_scan, o_put, o_w0, o_w1, o_w2, o_w3, o_w4, o_w5, o_w6, o_w7, o_w8, o_w9, o_w10]
 ·rw [show (1 : Int32).toNatClampNeg = 1 from rfl]
  simp +decide [o_co, o_scan, o_put, o_w0, o_w1, o_w2, o_w3, o_w4, o_w5, o_w6, o_w7, o_w8, o_w9, o_w10]
 ·rw [show (2 : Int32).toNatClampNeg = 2 from rfl]
  simp +decide [o_co, o_scan, o_put, o_w0, o_w1, o_w2, o_w3, o_w4, o_w5, o_w6, o_w7, o_w8, o_w9, o_w10]
 ·rw [show (3 : Int32).toNatClampNeg = 3 from rfl]
  simp +decide [o_co, o_scan, o_put, o_w0, o_w1, o_w2, o_w3, o_w4, o_w5, o_w6, o_w7, o_w8, o_w9, o_w10]
 ·rw [show (4 : Int32).toNatClampNeg = 4 from rfl]
  simp +decide [o_co, o_scan, o_put, o_w0, o_w1, o_w2, o_w3, o_w4, o_w5, o_w6, o_w7, o_w8, o_w9, o_w10]
 ·rw [show (5 : Int32).toNatClampNeg = 5 from rfl]
  simp +decide [o_co, o_scan, o_put, o_w0, o_w1, o_w2, o_w3, o_w4, o_w5, o_w6, o_w7, o_w8, o_w9, o_w10]
theorem o_cases7 (i : Int32) (h : 0 ≤ i.toInt ∧ i.toInt < 7) : i = (0 : Int32) ∨ i = (1 : Int32) ∨ i = (2 : Int32) ∨ i = (3 : Int32) ∨ i = (4 : Int32) ∨ i = (5 : Int32) ∨ i = (6 : Int32) := by
 rcases (by omega : i.toInt = 0 ∨ i.toInt = 1 ∨ i.toInt = 2 ∨ i.toInt = 3 ∨ i.toInt = 4 ∨ i.toInt = 5 ∨ i.toInt = 6) with h | h | h | h | h | h | h
 all_goals (have q := fun (z : Int32) (e : i.toInt = z.toInt) => Int32.toInt_inj.mp e)
 ·exact Or.inl (q _ (h.trans (by decide)))
 ·exact Or.inr (Or.inl (q _ (h.trans (by decide))))
 ·exact Or.inr (Or.inr (Or.inl (q _ (h.trans (by decide)))))
 ·exact Or.inr (Or.inr (Or.inr (Or.inl (q _ (h.trans (by decide))))))
 ·exact Or.inr (Or.inr (Or.inr (Or.inr (Or.inl (q _ (h.trans (by decide)))))))
 ·exact Or.inr (Or.inr (Or.inr (Or.inr (Or.inr (Or.inl (q _ (h.trans (by decide))))))))
 ·exact Or.inr (Or.inr (Or.inr (Or.inr (Or.inr (Or.inr ((q _ (h.trans (by decide)))))))))
set_option maxHeartbeats 4000000 in
theorem o_fin6 (sn : Int32) (h : 0 ≤ sn.toInt ∧ sn.toInt < 7) (x0 x1 y0 y1 frmL toL : Int64) : o_co (o_put (o_put (o_put (o_put (o_put (o_put (fun _ => 0) (0 + 1) x0 x1 (0 : Int64)) (1 + 1) y0 y1 (0 : Int64)) (2 + 1) (0 : Int64) (1 : Int64) (0 : Int64)) (3 + 1) (-9223372036854775808 : Int64) (-9223372036854775807 : Int64) (0 : Int64)) (4 + 1) (9223372036854775806 : Int64) (9223372036854775807 : Int64) (0 : Int64)) (5 + 1) (-10 : Int64) (10 : Int64) (0 : Int64)) frmL toL 6 sn.toNatClampNeg = o_w0 (6 : Int32) sn x0 x1 y0 y1 frmL toL := by
 rcases o_cases7 sn h with rfl | rfl | rfl | rfl | rfl | rfl | rfl
 ·rw [show (0 : Int32).toNatClampNeg = 0 from rfl]
  simp +decide [o_co, o_scan, o_put, o_w0, o_w1, o_w2, o_w3, o_w4, o_w5, o_w6, o_w7, o_w8, o_w9, o_w10]
 ·rw [show (1 : Int32).toNatClampNeg = 1 from rfl]
  simp +decide [o_co, o_scan, o_put, o_w0, o_w1, o_w2, o_w3, o_w4, o_w5, o_w6, o_w7, o_w8, o_w9, o_w10]
 ·rw [show (2 : Int32).toNatClampNeg = 2 from rfl]
  simp +decide [o_co, o_scan, o_put, o_w0, o_w1, o_w2, o_w3, o_w4, o_w5, o_w6, o_w7, o_w8, o_w9, o_w10]
 ·rw [show (3 : Int32).toNatClampNeg = 3 from rfl]
  simp +decide [o_co, o_scan, o_put, o_w0, o_w1, o_w2, o_w3, o_w4, o_w5, o_w6, o_w7, o_w8, o_w9, o_w10]
 ·rw [show (4 : Int32).toNatClampNeg = 4 from rfl]
  simp +decide [o_co, o_scan, o_put, o_w0, o_w1, o_w2, o_w3, o_w4, o_w5, o_w6, o_w7, o_w8, o_w9, o_w10]
 ·rw [show (5 : Int32).toNatClampNeg = 5 from rfl]
  simp +decide [o_co, o_scan, o_put, o_w0, o_w1, o_w2, o_w3, o_w4, o_w5, o_w6, o_w7, o_w8, o_w9, o_w10]
 ·rw [show (6 : Int32).toNatClampNeg = 6 from rfl]
  simp +decide [o_co, o_scan, o_put, o_w0, o_w1, o_w2, o_w3, o_w4, o_w5, o_w6, o_w7, o_w8, o_w9, o_w10]
theorem o_cases8 (i : Int32) (h : 0 ≤ i.toInt ∧ i.toInt < 8) : i = (0 : Int32) ∨ i = (1 : Int32) ∨ i = (2 : Int32) ∨ i = (3 : Int32) ∨ i = (4 : Int32) ∨ i = (5 : Int32) ∨ i = (6 : Int32) ∨ i = (7 : Int32) := by
 rcases (by omega : i.toInt = 0 ∨ i.toInt = 1 ∨ i.toInt = 2 ∨ i.toInt = 3 ∨ i.toInt = 4 ∨ i.toInt = 5 ∨ i.toInt = 6 ∨ i.toInt = 7) with h | h | h | h | h | h | h | h
 all_goals (have q := fun (z : Int32) (e : i.toInt = z.toInt) => Int32.toInt_inj.mp e)
 ·exact Or.inl (q _ (h.trans (by decide)))
 ·exact Or.inr (Or.inl (q _ (h.trans (by decide))))
 ·exact Or.inr (Or.inr (Or.inl (q _ (h.trans (by decide)))))
 ·exact Or.inr (Or.inr (Or.inr (Or.inl (q _ (h.trans (by decide))))))
 ·exact Or.inr (Or.inr (Or.inr (Or.inr (Or.inl (q _ (h.trans (by decide)))))))
 ·exact Or.inr (Or.inr (Or.inr (Or.inr (Or.inr (Or.inl (q _ (h.trans (by decide))))))))
 ·exact Or.inr (Or.inr (Or.inr (Or.inr (Or.inr (Or.inr (Or.inl (q _ (h.trans (by decide)))))))))
 ·exact Or.inr (Or.inr (Or.inr (Or.inr (Or.inr (Or.inr (Or.inr ((q _ (h.trans (by decide))))))))))
set_option maxHeartbeats 4000000 in
theorem o_fin7 (sn : Int32) (h : 0 ≤ sn.toInt ∧ sn.toInt < 8) (x0 x1 y0 y1 frmL toL : Int64) : o_co (o_put (o_put (o_put (o_put (o_put (o_put (o_put (fun _ => 0) (0 + 1) x0 x1 (0 : Int64)) (1 + 1) y0 y1 (0 : Int64)) (2 + 1) (0 : Int64) (1 : Int64) (0 : Int64)) (3 + 1) (-9223372036854775808 : Int64) (-9223372036854775807 : Int64) (0 : Int64)) (4 + 1) (9223372036854775806 : Int64) (9223372036854775807 : Int64) (0 : Int64)) (5 + 1) (-10 : Int64) (10 : Int64) (0 : Int64)) (6 + 1) (100 : Int64) (200 : Int64) (0 : Int64)) frmL toL 7 sn.toNatClampNeg = o_w0 (7 : Int32) sn x0 x1 y0 y1 frmL toL := by
 rcases o_cases8 sn h with rfl | rfl | rfl | rfl | rfl | rfl | rfl | rfl
 ·rw [show (0 : Int32).toNatClampNeg = 0 from rfl]
  simp +decide [o_co, o_scan, o_put, o_w0, o_w1, o_w2, o_w3, o_w4, o_w5, o_w6, o_w7, o_w8, o_w9, o_w10]
 ·rw [show (1 : Int32).toNatClampNeg = 1 from rfl]
  simp +decide [o_co, o_scan, o_put, o_w0, o_w1, o_w2, o_w3, o_w4, o_w5, o_w6, o_w7, o_w8, o_w9, o_w10]
 ·rw [show (2 : Int32).toNatClampNeg = 2 from rfl]
  simp +decide [o_co, o_scan, o_put, o_w0, o_w1, o_w2, o_w3, o_w4, o_w5, o_w6, o_w7, o_w8, o_w9, o_w10]
 ·rw [show (3 : Int32).toNatClampNeg = 3 from rfl]
  simp +decide [o_co, o_scan, o_put, o_w0, o_w1, o_w2, o_w3, o_w4, o_w5, o_w6, o_w7, o_w8, o_w9, o_w10]
 ·rw [show (4 : Int32).toNatClampNeg = 4 from rfl]
  simp +decide [o_co, o_scan, o_put, o_w0, o_w1, o_w2, o_w3, o_w4, o_w5, o_w6, o_w7, o_w8, o_w9, o_w10]
 ·rw [show (5 : Int32).toNatClampNeg = 5 from rfl]
  simp +decide [o_co, o_scan, o_put, o_w0, o_w1, o_w2, o_w3, o_w4, o_w5, o_w6, o_w7, o_w8, o_w9, o_w10]
 ·rw [show (6 : Int32).toNatClampNeg = 6 from rfl]
  simp +decide [o_co, o_scan, o_put, o_w0, o_w1, o_w2, o_w3, o_w4, o_w5, o_w6, o_w7, o_w8, o_w9, o_w10]
 ·rw [show (7 : Int32).toNatClampNeg = 7 from rfl]
  simp +decide [o_co, o_scan, o_put, o_w0, o_w1, o_w2, o_w3, o_w4, o_w5, o_w6, o_w7, o_w8, o_w9, o_w10]
theorem o_cases9 (i : Int32) (h : 0 ≤ i.toInt ∧ i.toInt < 9) : i = (0 : Int32) ∨ i = (1 : Int32) ∨ i = (2 : Int32) ∨ i = (3 : Int32) ∨ i = (4 : Int32) ∨ i = (5 : Int32) ∨ i = (6 : Int32) ∨ i = (7 : Int32) ∨ i = (8 : Int32) := by
 rcases (by omega : i.toInt = 0 ∨ i.toInt = 1 ∨ i.toInt = 2 ∨ i.toInt = 3 ∨ i.toInt = 4 ∨ i.toInt = 5 ∨ i.toInt = 6 ∨ i.toInt = 7 ∨ i.toInt = 8) with h | h | h | h | h | h | h | h | h
 all_goals (have q := fun (z : Int32) (e : i.toInt = z.toInt) => Int32.toInt_inj.mp e)
 ·exact Or.inl (q _ (h.trans (by decide)))
 ·exact Or.inr (Or.inl (q _ (h.trans (by decide))))
 ·exact Or.inr (Or.inr (Or.inl (q _ (h.trans (by decide)))))
 ·exact Or.inr (Or.inr (Or.inr (Or.inl (q _ (h.trans (by decide))))))
 ·exact Or.inr (Or.inr (Or.inr (Or.inr (Or.inl (q _ (h.trans (by decide)))))))
 ·exact Or.inr (Or.inr (Or.inr (Or.inr (Or.inr (Or.inl (q _ (h.trans (by decide))))))))
 ·exact Or.inr (Or.inr (Or.inr (Or.inr (Or.inr (Or.inr (Or.inl (q _ (h.trans (by decide)))))))))
 ·exact Or.inr (Or.inr (Or.inr (Or.inr (Or.inr (Or.inr (Or.inr (Or.inl (q _ (h.trans (by decide))))))))))
 ·exact Or.inr (Or.inr (Or.inr (Or.inr (Or.inr (Or.inr (Or.inr (Or.inr ((q _ (h.trans (by decide)))))))))))
set_option maxHeartbeats 4000000 in
theorem o_fin8 (sn : Int32) (h : 0 ≤ sn.toInt ∧ sn.toInt < 9) (x0 x1 y0 y1 frmL toL : Int64) : o_co (o_put (o_put (o_put (o_put (o_put (o_put (o_put (o_put (fun _ => 0) (0 + 1) x0 x1 (0 : Int64)) (1 + 1) y0 y1 (0 : Int64)) (2 + 1) (0 : Int64) (1 : Int64) (0 : Int64)) (3 + 1) (-9223372036854775808 : Int64) (-9223372036854775807 : Int64) (0 : Int64)) (4 + 1) (9223372036854775806 : Int64) (9223372036854775807 : Int64) (0 : Int64)) (5 + 1) (-10 : Int64) (10 : Int64) (0 : Int64)) (6 + 1) (100 : Int64) (200 : Int64) (0 : Int64)) (7 + 1) (-200 : Int64) (-100 : Int64) (0 : Int64)) frmL toL 8 sn.toNatClampNeg = o_w0 (8 : Int32) sn x0 x1 y0 y1 frmL toL := by
 rcases o_cases9 sn h with rfl | rfl | rfl | rfl | rfl | rfl | rfl | rfl | rfl
 ·rw [show (0 : Int32).toNatClampNeg = 0 from rfl]
  simp +decide [o_co, o_scan, o_put, o_w0, o_w1, o_w2, o_w3, o_w4, o_w5, o_w6, o_w7, o_w8, o_w9, o_w10]
 ·rw [show (1 : Int32).toNatClampNeg = 1 from rfl]
  simp +decide [o_co, o_scan, o_put, o_w0, o_w1, o_w2, o_w3, o_w4, o_w5, o_w6, o_w7, o_w8, o_w9, o_w10]
 ·rw [show (2 : Int32).toNatClampNeg = 2 from rfl]
  simp +decide [o_co, o_scan, o_put, o_w0, o_w1, o_w2, o_w3, o_w4, o_w5, o_w6, o_w7, o_w8, o_w9, o_w10]
 ·rw [show (3 : Int32).toNatClampNeg = 3 from rfl]
  simp +decide [o_co, o_scan, o_put, o_w0, o_w1, o_w2, o_w3, o_w4, o_w5, o_w6, o_w7, o_w8, o_w9, o_w10]
 ·rw [show (4 : Int32).toNatClampNeg = 4 from rfl]
  simp +decide [o_co, o_scan, o_put, o_w0, o_w1, o_w2, o_w3, o_w4, o_w5, o_w6, o_w7, o_w8, o_w9, o_w10]
 ·rw [show (5 : Int32).toNatClampNeg = 5 from rfl]
  simp +decide [o_co, o_scan, o_put, o_w0, o_w1, o_w2, o_w3, o_w4, o_w5, o_w6, o_w7, o_w8, o_w9, o_w10]
 ·rw [show (6 : Int32).toNatClampNeg = 6 from rfl]
  simp +decide [o_co, o_scan, o_put, o_w0, o_w1, o_w2, o_w3, o_w4, o_w5, o_w6, o_w7, o_w8, o_w9, o_w10]
 ·rw [show (7 : Int32).toNatClampNeg = 7 from rfl]
  simp +decide [o_co, o_scan, o_put, o_w0, o_w1, o_w2, o_w3, o_w4, o_w5, o_w6, o_w7, o_w8, o_w9, o_w10]
 ·rw [show (8 : Int32).toNatClampNeg = 8 from rfl]
  simp +decide [o_co, o_scan, o_put, o_w0, o_w1, o_w2, o_w3, o_w4, o_w5, o_w6, o_w7, o_w8, o_w9, o_w10]
theorem o_cases10 (i : Int32) (h : 0 ≤ i.toInt ∧ i.toInt < 10) : i = (0 : Int32) ∨ i = (1 : Int32) ∨ i = (2 : Int32) ∨ i = (3 : Int32) ∨ i = (4 : Int32) ∨ i = (5 : Int32) ∨ i = (6 : Int32) ∨ i = (7 : Int32) ∨ i = (8 : Int32) ∨ i = (9 : Int32) := by
 rcases (by omega : i.toInt = 0 ∨ i.toInt = 1 ∨ i.toInt = 2 ∨ i.toInt = 3 ∨ i.toInt = 4 ∨ i.toInt = 5 ∨ i.toInt = 6 ∨ i.toInt = 7 ∨ i.toInt = 8 ∨ i.toInt = 9) with h | h | h | h | h | h | h | h | h | h
 all_goals (have q := fun (z : Int32) (e : i.toInt = z.toInt) => Int32.toInt_inj.mp e)
 ·exact Or.inl (q _ (h.trans (by decide)))
 ·exact Or.inr (Or.inl (q _ (h.trans (by decide))))
 ·exact Or.inr (Or.inr (Or.inl (q _ (h.trans (by decide)))))
 ·exact Or.inr (Or.inr (Or.inr (Or.inl (q _ (h.trans (by decide))))))
 ·exact Or.inr (Or.inr (Or.inr (Or.inr (Or.inl (q _ (h.trans (by decide)))))))
 ·exact Or.inr (Or.inr (Or.inr (Or.inr (Or.inr (Or.inl (q _ (h.trans (by decide))))))))
 ·exact Or.inr (Or.inr (Or.inr (Or.inr (Or.inr (Or.inr (Or.inl (q _ (h.trans (by decide)))))))))
 ·exact Or.inr (Or.inr (Or.inr (Or.inr (Or.inr (Or.inr (Or.inr (Or.inl (q _ (h.trans (by decide))))))))))
 ·exact Or.inr (Or.inr (Or.inr (Or.inr (Or.inr (Or.inr (Or.inr (Or.inr (Or.inl (q _ (h.trans (by decide)))))))))))
 ·exact Or.inr (Or.inr (Or.inr (Or.inr (Or.inr (Or.inr (Or.inr (Or.inr (Or.inr ((q _ (h.trans (by decide))))))))))))
set_option maxHeartbeats 4000000 in
theorem o_fin9 (sn : Int32) (h : 0 ≤ sn.toInt ∧ sn.toInt < 10) (x0 x1 y0 y1 frmL toL : Int64) : o_co (o_put (o_put (o_put (o_put (o_put (o_put (o_put (o_put (o_put (fun _ => 0) (0 + 1) x0 x1 (0 : Int64)) (1 + 1) y0 y1 (0 : Int64)) (2 + 1) (0 : Int64) (1 : Int64) (0 : Int64)) (3 + 1) (-9223372036854775808 : Int64) (-9223372036854775807 : Int64) (0 : Int64)) (4 + 1) (9223372036854775806 : Int64) (9223372036854775807 : Int64) (0 : Int64)) (5 + 1) (-10 : Int64) (10 : Int64) (0 : Int64)) (6 + 1) (100 : Int64) (200 : Int64) (0 : Int64)) (7 + 1) (-200 : Int64) (-100 : Int64) (0 : Int64)) (8 + 1) (5 : Int64) (6 : Int64) (0 : Int64)) frmL toL 9 sn.toNatClampNeg = o_w0 (9 : Int32) sn x0 x1 y0 y1 frmL toL := by
 rcases o_cases10 sn h with rfl | rfl | rfl | rfl | rfl | rfl | rfl | rfl | rfl | rfl
 ·rw [show (0 : Int32).toNatClampNeg = 0 from rfl]
  simp +decide [o_co, o_scan, o_put, o_w0, o_w1, o_w2, o_w3, o_w4, o_w5, o_w6, o_w7, o_w8, o_w9, o_w10]
 ·rw [show (1 : Int32).toNatClampNeg = 1 from rfl]
  simp +decide [o_co, o_scan, o_put, o_w0, o_w1, o_w2, o_w3, o_w4, o_w5, o_w6, o_w7, o_w8, o_w9, o_w10]
 ·rw [show (2 : Int32).toNatClampNeg = 2 from rfl]
  simp +decide [o_co, o_scan, o_put, o_w0, o_w1, o_w2, o_w3, o_w4, o_w5, o_w6, o_w7, o_w8, o_w9, o_w10]
 ·rw [show (3 : Int32).toNatClampNeg = 3 from rfl]
  simp +decide [o_co, o_scan, o_put, o_w0, o_w1, o_w2, o_w3, o_w4, o_w5, o_w6, o_w7, o_w8, o_w9, o_w10]
 ·rw [show (4 : Int32).toNatClampNeg = 4 from rfl]
  simp +decide [o_co, o_scan, o_put, o_w0, o_w1, o_w2, o_w3, o_w4, o_w5, o_w6, o_w7, o_w8, o_w9, o_w10]
 ·rw [show (5 : Int32).toNatClampNeg = 5 from rfl]
  simp +decide [o_co, o_scan, o_put, o_w0, o_w1, o_w2, o_w3, o_w4, o_w5, o_w6, o_w7, o_w8, o_w9, o_w10]
 ·rw [show (6 : Int32).toNatClampNeg = 6 from rfl]
  simp +decide [o_co, o_scan, o_put, o_w0, o_w1, o_w2, o_w3, o_w4, o_w5, o_w6, o_w7, o_w8, o_w9, o_w10]
 ·rw [show (7 : Int32).toNatClampNeg = 7 from rfl]
  simp +decide [o_co, o_scan, o_put, o_w0, o_w1, o_w2, o_w3, o_w4, o_w5, o_w6, o_w7, o_w8, o_w9, o_w10]
 ·rw [show (8 : Int32).toNatClampNeg = 8 from rfl]
  simp +decide [o_co, o_scan, o_put, o_w0, o_w1, o_w2, o_w3, o_w4, o_w5, o_w6, o_w7, o_w8, o_w9, o_w10]
 ·rw [show (9 : Int32).toNatClampNeg = 9 from rfl]
  simp +decide [o_co, o_scan, o_put, o_w0, o_w1, o_w2, o_w3, o_w4, o_w5, o_w6, o_w7, o_w8, o_w9, o_w10]
set_option maxRecDepth 65536 in
set_option maxHeartbeats 40000000 in
theorem o_bookX_m1 {p : Program} {l : Launch} {e : Env} {s : State} {m : MethodId} {args : Array Value} {below : List Frame} {meth : Method} {c : Code} {T : State} {locs : List Loc} {Z : State} {a0 : Array Value} {h : Heap} (hw : ∀ d ∈ tables_1, d.before a0 Z = true) (n0 : Nat) (pp rc ru wa tm fr : Addr) (tl la L : Int32) (ch gb : Int64) (xs : Nat → Int64) (fs : Nat → Int32) (rs : Nat → Int64) (start ending : Int64) (cn : Nat) (lo hi lo1 hi1 : Int)
  (X : Stand p l e room_1 s m args below meth c T locs (6 + o_cL L) (66 + o_sL L)) (hx : p.tables.exec = Jvm.exec) (hZ : Z.Warmed39 s.vm) (eT : T.heap = h) (hown : s.vm.findClass o_n5 = some m.cls) (hP : o_Pr Z n0 pp rc ru wa tm fr tl la L ch gb xs fs rs h) (i1 : 1 ≤ tl.toInt) (i2 : tl.toInt ≤ L.toInt) (hL : L = 4 ∨ L = 8 ∨ L = 16 ∨ L = 32) (i3 : tl.toInt + 2 ≤ 32)
  (hse : start < ending) (hc : ch.toInt = (cn : Int)) (hc2 : cn ≤ 100) (Dd : o_D lo hi lo1 hi1 (-1)) (Sg : o_S lo hi tl.toNatClampNeg xs fs) (hz : hi ≤ 15 → ¬ start < xs 0) {g : JFrame} (hg : g.method = m) (hsize : g.locals.size = c.maxLocals) (hmr : g.monitorRoom = 0) (hs : g.stack = [.int (1 : Int32), .long ending, .long start, .ref pp]) (hd : decode c.code g.pc = .ok (.invokevirtual 25, 3)) :
  ∃ (T' : State) (h' : Heap) (Ls : List Loc) (tm' fr' : Addr) (tl' la' L' : Int32) (xs' : Nat → Int64) (fs' : Nat → Int32), Stand p l e room_1 s m args below meth c T' (locs ++ Ls) (6 + o_cL L') (66 + o_sL L') ∧ T'.heap = h' ∧ Fr n0 Ls ∧ o_Pr Z n0 pp rc ru wa tm' fr' tl' la' L' (ch + (1 : Int64)) gb xs' fs' (o_put rs (cn + 1) start ending (0 : Int64)) h' ∧ 1 ≤ tl'.toInt ∧ tl'.toInt ≤ tl.toInt + 2 ∧ tl'.toInt ≤ L'.toInt ∧ (L' = 4 ∨ L' = 8 ∨ L' = 16 ∨ L' = 32) ∧ xs' 0 = xs 0 ∧ o_S lo1 hi1 tl'.toNatClampNeg xs' fs' ∧
   ∀ target, Steps p.tables e below (T'.setTop { g with pc := g.pc + 3, stack := [] }) target → Steps p.tables e below (T.setTop g) target := by
 have E := hP.1
 have cl := o_cL_le L
 have k4 : (4 : Int32).toInt = 4 := by decide
 have k8 : (8 : Int32).toInt = 8 := by decide
 have k16 : (16 : Int32).toInt = 16 := by decide
 have k32 : (32 : Int32).toInt = 32 := by decide
 have l32 : L.toInt ≤ 32 := by rcases hL with rfl | rfl | rfl | rfl <;> omega
 by_cases hgr : tl.toInt + 2 ≤ L.toInt
 ·obtain ⟨v, T1, L1, hQ, X1, st⟩ := o_callV X hx hZ eT hown (o_m hw 50 rfl) (o_m hw 51 rfl) (o_m hw 53 rfl) (o_m hw 52 rfl) (by decide) (b := pp) E (o_m hw 54 rfl) (o_m hw 9 rfl) (o_bookN_m1 l Z a0 hw n0 pp rc ru wa tm fr tl la L ch gb xs fs rs start ending cn lo hi lo1 hi1 h hP i1 i2 l32 hgr hse hc hc2 Dd Sg hz) hg hsize hmr (argsL := [.long start, .long ending, .int (1 : Int32)]) (rest := []) rfl (lenOf o_pd9 rfl) hs hd (o_b rfl) (o_b rfl) (by show _ + 0 ≤ 32; omega) (by show _ + 0 ≤ 448; omega)
  obtain ⟨tm', fr', tl', la', xs', fs', rfl, N, hR, z1, z2, z3, z4⟩ := hQ
  exact ⟨T1, _, L1, tm', fr', tl', la', L, xs', fs', X1, rfl, N, hR, z1, z2, by omega, hL, z3, z4, st⟩
 ·rcases hL with rfl | rfl | rfl | rfl
  all_goals try (exfalso; omega)
  ·obtain ⟨q1, q2, q3, q4⟩ := o_Lg (L := (4 : Int32)) (by decide)
   obtain ⟨v, T1, L1, hQ, X1, st⟩ := o_callV X hx hZ eT hown (o_m hw 50 rfl) (o_m hw 51 rfl) (o_m hw 53 rfl) (o_m hw 52 rfl) (by decide) (b := pp) E (o_m hw 54 rfl) (o_m hw 9 rfl) (o_bookG_m1 l Z a0 hw n0 pp rc ru wa tm fr tl la (4 : Int32) ch gb xs fs rs ((2 : Int32) * (4 : Int32)) start ending cn lo hi lo1 hi1 h hP i1 i2 (by omega) (by omega) rfl q1 q2 q3 q4 (by omega) hse hc hc2 Dd Sg hz) hg hsize hmr (argsL := [.long start, .long ending, .int (1 : Int32)]) (rest := []) rfl (lenOf o_pd9 rfl) hs hd (o_b rfl) (o_b rfl) (o_b rfl) (o_b rfl)
   obtain ⟨tm', fr', tl', la', xs', fs', rfl, N, hR, z1, z2, z3, z4⟩ := hQ
   exact ⟨T1, _, L1, tm', fr', tl', la', ((2 : Int32) * (4 : Int32)), xs', fs', X1.more (by decide) (by decide), rfl, N, hR, z1, z2, by omega, by decide, z3, z4, st⟩
  ·obtain ⟨q1, q2, q3, q4⟩ := o_Lg (L := (8 : Int32)) (by decide)
   obtain ⟨v, T1, L1, hQ, X1, st⟩ := o_callV X hx hZ eT hown (o_m hw 50 rfl) (o_m hw 51 rfl) (o_m hw 53 rfl) (o_m hw 52 rfl) (by decide) (b := pp) E (o_m hw 54 rfl) (o_m hw 9 rfl) (o_bookG_m1 l Z a0 hw n0 pp rc ru wa tm fr tl la (8 : Int32) ch gb xs fs rs ((2 : Int32) * (8 : Int32)) start ending cn lo hi lo1 hi1 h hP i1 i2 (by omega) (by omega) rfl q1 q2 q3 q4 (by omega) hse hc hc2 Dd Sg hz) hg hsize hmr (argsL := [.long start, .long ending, .int (1 : Int32)]) (rest := []) rfl (lenOf o_pd9 rfl) hs hd (o_b rfl) (o_b rfl) (o_b rfl) (o_b rfl)
   obtain ⟨tm', fr', tl', la', xs', fs', rfl, N, hR, z1, z2, z3, z4⟩ := hQ
   exact ⟨T1, _, L1, tm', fr', tl', la', ((2 : Int32) * (8 : Int32)), xs', fs', X1.more (by decide) (by decide), rfl, N, hR, z1, z2, by omega, by decide, z3, z4, st⟩
  ·obtain ⟨q1, q2, q3, q4⟩ := o_Lg (L := (16 : Int32)) (by decide)
   obtain ⟨v, T1, L1, hQ, X1, st⟩ := o_callV X hx hZ eT hown (o_m hw 50 rfl) (o_m hw 51 rfl) (o_m hw 53 rfl) (o_m hw 52 rfl) (by decide) (b := pp) E (o_m hw 54 rfl) (o_m hw 9 rfl) (o_bookG_m1 l Z a0 hw n0 pp rc ru wa tm fr tl la (16 : Int32) ch gb xs fs rs ((2 : Int32) * (16 : Int32)) start ending cn lo hi lo1 hi1 h hP i1 i2 (by omega) (by omega) rfl q1 q2 q3 q4 (by omega) hse hc hc2 Dd Sg hz) hg hsize hmr (argsL := [.long start, .long ending, .int (1 : Int32)]) (rest := []) rfl (lenOf o_pd9 rfl) hs hd (o_b rfl) (o_b rfl) (o_b rfl) (o_b rfl)
   obtain ⟨tm', fr', tl', la', xs', fs', rfl, N, hR, z1, z2, z3, z4⟩ := hQ
   exact ⟨T1, _, L1, tm', fr', tl', la', ((2 : Int32) * (16 : Int32)), xs', fs', X1.more (by decide) (by decide), rfl, N, hR, z1, z2, by omega, by decide, z3, z4, st⟩
theorem o_pd10 : parseMethodDescriptor "(JJJ)Z" = some ⟨[.long, .long, .long], some .boolean⟩ := by decide +kernel
set_option maxRecDepth 65536 in
set_option maxHeartbeats 40000000 in
theorem o_L2 {p : Program} {l : Launch} {e : Env} {s : State} {m : MethodId} {below : List Frame} {meth : Method} {c : Code} (Z : State) (a0 : Array Value) (hw : ∀ d ∈ tables_1, d.before a0 Z = true) (n0 : Nat) (x y z frmL toL : Int64) (kq : Int32) (x0 x1 y0 y1 : Int64) (wa ni : Addr)
  (hx : p.tables.exec = Jvm.exec) (hby : c.code = code) (hml : c.maxLocals = maxLocals) (hZ : Z.Warmed39 s.vm) (hown : s.vm.findClass o_n5 = some m.cls) (hret : meth.sig.returnType = ret) (hlk : meth.locks = false) {T : State} {locs : List Loc} {hh : Heap} (X0 : Stand p l e room_1 s m #[(.long x), (.long y), (.long z), (.long frmL), (.long toL), (.int kq)] below meth c T locs 0 0) (e0 : T.heap = hh) (NL : Fr n0 locs) (hsz : n0 ≤ hh.size) (wl : wa < n0) (Ew0 : Exa Z hh wa o_n2) (Sn : Sta Z hh o_n1 "NO_INSTANTS" "[J" (.ref ni)) (Sw : Sta Z hh o_n1 "UNWATCHED" "Lcom/example/gapwright/gapwright/profile/CpuProfile$Watcher;" (.ref wa)) (hxx : x0 < x1) (hyy : y0 < y1) :
  o_G p e below s (fun v h L => v = some (.int (1 : Int32)) ∧ Fr n0 L) 32 448 T (o_f33 m 94 x y z frmL toL kq x0 x1 y0 y1 []) := by
 refine o_q T (o_f33 m 95 x y z frmL toL kq x0 x1 y0 y1 [(.int (1 : Int32))]) (fun _ k => XS.iconst X0.here hx rfl (hb hby at_94) k) ?_
 refine o_q T (o_f33 m 97 x y z frmL toL kq x0 x1 y0 y1 [(.int kq), (.int (1 : Int32))]) (fun _ k => XS.iload X0.here hx rfl (hb hby at_95) rfl k) ?_
 refine o_q T (o_f33 m 99 x y z frmL toL kq x0 x1 y0 y1 [(.int (8 : Int32)), (.int kq), (.int (1 : Int32))]) (fun _ k => XS.bipush X0.here hx rfl (hb hby at_97) k) ?_
 refine o_q T (o_f33 m 100 x y z frmL toL kq x0 x1 y0 y1 [(.int (kq.toUInt32 >>> ((8 : Int32) &&& 31).toUInt32).toInt32), (.int (1 : Int32))]) (fun _ k => XS.iushr X0.here hx rfl (hb hby at_99) rfl k) ?_
 refine o_q T (o_f33 m 102 x y z frmL toL kq x0 x1 y0 y1 [(.int (9 : Int32)), (.int (kq.toUInt32 >>> ((8 : Int32) &&& 31).toUInt32).toInt32), (.int (1 : Int32))]) (fun _ k => XS.bipush X0.here hx rfl (hb hby at_100) k) ?_
 refine o_q T (o_f33 m 103 x y z frmL toL kq x0 x1 y0 y1 [(.int ((kq.toUInt32 >>> ((8 : Int32) &&& 31).toUInt32).toInt32 % (9 : Int32))), (.int (1 : Int32))]) (fun _ k => iremM X0 hx rfl (hb hby at_102) rfl (by decide) k) ?_
 refine o_q T (o_f33 m 104 x y z frmL toL kq x0 x1 y0 y1 [(.int ((1 : Int32) + ((kq.toUInt32 >>> ((8 : Int32) &&& 31).toUInt32).toInt32 % (9 : Int32))))]) (fun _ k => XS.iadd X0.here hx rfl (hb hby at_103) rfl k) ?_
 obtain ⟨nn, h_nn⟩ : ∃ z, z = ((1 : Int32) + ((kq.toUInt32 >>> ((8 : Int32) &&& 31).toUInt32).toInt32 % (9 : Int32))) := ⟨_, rfl⟩
 rw [← h_nn]
 have rn : 1 ≤ nn.toInt ∧ nn.toInt ≤ 9 := h_nn ▸ o_nrange kq
 refine o_q T (o_f34 m 106 x y z frmL toL kq x0 x1 y0 y1 nn []) (fun _ k => XS.istore X0.here hx rfl (hb hby at_104) rfl (l' := (o_t34 x y z frmL toL kq x0 x1 y0 y1 nn)) rfl k) ?_
 refine o_q T (o_f34 m 108 x y z frmL toL kq x0 x1 y0 y1 nn [(.int kq)]) (fun _ k => XS.iload X0.here hx rfl (hb hby at_106) rfl k) ?_
 refine o_q T (o_f34 m 111 x y z frmL toL kq x0 x1 y0 y1 nn [(.int (255 : Int32)), (.int kq)]) (fun _ k => XS.sipush X0.here hx rfl (hb hby at_108) k) ?_
 refine o_q T (o_f34 m 112 x y z frmL toL kq x0 x1 y0 y1 nn [(.int (kq &&& (255 : Int32)))]) (fun _ k => XS.iand X0.here hx rfl (hb hby at_111) rfl k) ?_
 refine o_q T (o_f34 m 114 x y z frmL toL kq x0 x1 y0 y1 nn [(.int nn), (.int (kq &&& (255 : Int32)))]) (fun _ k => XS.iload X0.here hx rfl (hb hby at_112) rfl k) ?_
 refine o_q T (o_f34 m 115 x y z frmL toL kq x0 x1 y0 y1 nn [(.int (1 : Int32)), (.int nn), (.int (kq &&& (255 : Int32)))]) (fun _ k => XS.iconst X0.here hx rfl (hb hby at_114) k) ?_
 refine o_q T (o_f34 m 116 x y z frmL toL kq x0 x1 y0 y1 nn [(.int (nn + (1 : Int32))), (.int (kq &&& (255 : Int32)))]) (fun _ k => XS.iadd X0.here hx rfl (hb hby at_115) rfl k) ?_
 refine o_q T (o_f34 m 117 x y z frmL toL kq x0 x1 y0 y1 nn [(.int ((kq &&& (255 : Int32)) % (nn + (1 : Int32))))]) (fun _ k => iremM X0 hx rfl (hb hby at_116) rfl (o_nz1 rn) k) ?_
 obtain ⟨sn, h_sn⟩ : ∃ z, z = ((kq &&& (255 : Int32)) % (nn + (1 : Int32))) := ⟨_, rfl⟩
 rw [← h_sn]
 have rs0 : 0 ≤ sn.toInt ∧ sn.toInt < nn.toInt + 1 := h_sn ▸ o_srange kq nn rn
 refine o_q T (o_f35 m 119 x y z frmL toL kq x0 x1 y0 y1 nn sn []) (fun _ k => XS.istore X0.here hx rfl (hb hby at_117) rfl (l' := (o_t35 x y z frmL toL kq x0 x1 y0 y1 nn sn)) rfl k) ?_
 obtain ⟨T1, h1, X1, e1, E1, A1, D1, -, st1⟩ := newO X0 hx hZ hown (o_m hw 7 rfl) (o_m hw 8 rfl) (o_m hw 9 rfl) e0 (g := (o_f35 m 119 x y z frmL toL kq x0 x1 y0 y1 nn sn [])) rfl (hb hby at_119) (by decide) (by decide)
 obtain ⟨b1, g1⟩ : ∃ z, z = hh.size := ⟨_, rfl⟩
 rw [← g1] at A1 D1 st1
 have g_b1 : n0 ≤ b1 := Nat.le_trans hsz (Nat.le_of_eq g1.symm)
 have F1_runs : Fld Z h1 b1 o_n1 "runs" "Lcom/example/gapwright/gapwright/profile/FreeRuns;" .null := D1 (Or.inr (o_m hw 26 rfl)) (ty := (.object o_n3)) (by decide)
 have F1_firstWith : Fld Z h1 b1 o_n1 "firstWith" "[J" .null := D1 (Or.inl (o_m hw 29 rfl)) (ty := (.array .long)) (by decide)
 have F1_openedAt : Fld Z h1 b1 o_n1 "openedAt" "[J" .null := D1 (Or.inl (o_m hw 33 rfl)) (ty := (.array .long)) (by decide)
 have F1_recent : Fld Z h1 b1 o_n1 "recent" "[J" .null := D1 (Or.inr (o_m hw 35 rfl)) (ty := (.array .long)) (by decide)
 have F1_watcher : Fld Z h1 b1 o_n1 "watcher" "Lcom/example/gapwright/gapwright/profile/CpuProfile$Watcher;" .null := D1 (Or.inl (o_m hw 39 rfl)) (ty := (.object o_n4)) (by decide)
 have F1_cpus : Fld Z h1 b1 o_n1 "cpus" "I" (.int (0 : Int32)) := D1 (Or.inr (o_m hw 41 rfl)) (ty := .int) (by decide)
 have F1_times : Fld Z h1 b1 o_n1 "times" "[J" .null := D1 (Or.inl (o_m hw 44 rfl)) (ty := (.array .long)) (by decide)
 have F1_free : Fld Z h1 b1 o_n1 "free" "[I" .null := D1 (Or.inl (o_m hw 47 rfl)) (ty := (.array .int)) (by decide)
 have F1_tail : Fld Z h1 b1 o_n1 "tail" "I" (.int (0 : Int32)) := D1 (Or.inl (o_m hw 49 rfl)) (ty := .int) (by decide)
 have F1_firstKnown : Fld Z h1 b1 o_n1 "firstKnown" "Z" (.int (0 : Int32)) := D1 (Or.inl (o_m hw 64 rfl)) (ty := .boolean) (by decide)
 have F1_watchedAs : Fld Z h1 b1 o_n1 "watchedAs" "I" (.int (0 : Int32)) := D1 (Or.inl (o_m hw 66 rfl)) (ty := .int) (by decide)
 have F1_changes : Fld Z h1 b1 o_n1 "changes" "J" (.long (0 : Int64)) := D1 (Or.inl (o_m hw 78 rfl)) (ty := .long) (by decide)
 have F1_head : Fld Z h1 b1 o_n1 "head" "I" (.int (0 : Int32)) := D1 (Or.inl (o_m hw 93 rfl)) (ty := .int) (by decide)
 have F1_lastAt : Fld Z h1 b1 o_n1 "lastAt" "I" (.int (0 : Int32)) := D1 (Or.inl (o_m hw 106 rfl)) (ty := .int) (by decide)
 have F1_merged : Fld Z h1 b1 o_n1 "merged" "J" (.long (0 : Int64)) := D1 (Or.inl (o_m hw 132 rfl)) (ty := .long) (by decide)
 have F1_gaveBack : Fld Z h1 b1 o_n1 "gaveBack" "J" (.long (0 : Int64)) := D1 (Or.inl (o_m hw 166 rfl)) (ty := .long) (by decide)
 refine o_q T1 (o_f35 m 122 x y z frmL toL kq x0 x1 y0 y1 nn sn [(.ref b1)]) st1 ?_
 refine o_q T1 (o_f35 m 123 x y z frmL toL kq x0 x1 y0 y1 nn sn [(.ref b1), (.ref b1)]) (fun _ k => XS.dup X1.here hx rfl (hb hby at_122) rfl rfl k) ?_
 refine o_q T1 (o_f35 m 125 x y z frmL toL kq x0 x1 y0 y1 nn sn [(.int (16 : Int32)), (.ref b1), (.ref b1)]) (fun _ k => XS.bipush X1.here hx rfl (hb hby at_123) k) ?_
 have gp0 := g_b1
 obtain ⟨v2, T2, L2, hQ2, X2, st2⟩ := o_callN X1 hx hZ e1 hown rfl (o_m hw 10 rfl) (o_m hw 11 rfl) (by decide) (a := b1) (o_m hw 12 rfl) (o_m hw 9 rfl) (o_pinit l Z a0 hw n0 b1 wa ni h1 gp0 wl A1 (Ew0.ext E1) (Sn.ext E1) (Sw.ext E1) F1_runs F1_firstWith F1_openedAt F1_recent F1_watcher F1_cpus F1_times F1_free F1_tail F1_firstKnown F1_watchedAs F1_changes F1_head F1_lastAt F1_merged F1_gaveBack) (g := (o_f35 m 125 x y z frmL toL kq x0 x1 y0 y1 nn sn [(.int (16 : Int32)), (.ref b1), (.ref b1)])) rfl (by rw [hml]; rfl) rfl (argsL := [(.int (16 : Int32))]) (rest := [(.ref b1)]) rfl (lenOf o_pd2 rfl) rfl (hb hby at_125) (o_b rfl) (o_b rfl) (o_b rfl) (o_b rfl)
 obtain ⟨h2, e2⟩ : ∃ z, T2.heap = z := ⟨_, rfl⟩
 rw [e2] at hQ2
 obtain ⟨pp, hpp⟩ : ∃ z, z = b1 := ⟨_, rfl⟩
 subst hpp
 obtain ⟨rc, ru, tmi, fri, xsi, fsi, rfl, N2, hR2, hx0, hf0⟩ := hQ2
 have N_2 := Fr.app NL N2
 have Xm2 : Stand p l e room_1 s m #[(.long x), (.long y), (.long z), (.long frmL), (.long toL), (.int kq)] below meth c T2 _ (6 + o_cL (4 : Int32)) (66 + o_sL (4 : Int32)) := X2.more (by decide) (by decide)
 obtain ⟨Ep3, Er3, Ew3, F3_cpus, F3_times, F3_free, F3_head, F3_tail, F3_lastAt, F3_runs, F3_firstKnown, F3_watcher, F3_watchedAs, F3_changes, F3_merged, F3_gaveBack, F3_recent, Fn3, At3, Af3, Ar3, nt3, wl3, gp3, gt3, gf3, gr3, gu3⟩ := hR2
 have ne4 : o_ne pp ru := Ep3.ne Er3 (by decide)
 have ne5 : o_ne pp tmi := At3.neExa Ep3 (o_m hw 8 rfl)
 have ne6 : o_ne ru tmi := At3.neExa Er3 (o_m hw 17 rfl)
 have ne7 : o_ne pp fri := Af3.neExa Ep3 (o_m hw 8 rfl)
 have ne8 : o_ne ru fri := Af3.neExa Er3 (o_m hw 17 rfl)
 have ne9 : o_ne pp rc := Ar3.neExa Ep3 (o_m hw 8 rfl)
 have ne10 : o_ne ru rc := Ar3.neExa Er3 (o_m hw 17 rfl)
 have ne11 : o_ne wa pp := Nat.ne_of_lt (Nat.lt_of_lt_of_le wl3 gp3)
 have ne12 : o_ne wa tmi := Nat.ne_of_lt (Nat.lt_of_lt_of_le wl3 gt3)
 have ne13 : o_ne wa fri := Nat.ne_of_lt (Nat.lt_of_lt_of_le wl3 gf3)
 have ne14 : o_ne wa rc := Nat.ne_of_lt (Nat.lt_of_lt_of_le wl3 gr3)
 have ne15 : o_ne wa ru := Nat.ne_of_lt (Nat.lt_of_lt_of_le wl3 gu3)
 have ne16 : o_ne tmi fri := At3.ne Af3 (by intro q; cases q)
 have ne17 : o_ne fri rc := Af3.ne Ar3 (by intro q; cases q)
 refine o_q T2 (o_f35 m 128 x y z frmL toL kq x0 x1 y0 y1 nn sn [(.ref pp)]) st2 ?_
 have Sg0 : o_S 16 16 (1 : Int32).toNatClampNeg xsi fsi := Or.inl ⟨rfl, by decide, fun i hi => by have k1 : (1 : Int32).toNatClampNeg = 1 := rfl; have : i = 0 := (by omega); subst this; exact Or.inl ⟨by omega, by omega⟩⟩
 refine o_q T2 (o_f36 m 130 x y z frmL toL kq x0 x1 y0 y1 nn sn pp []) (fun _ k => XS.astore Xm2.here hx rfl (hb hby at_128) rfl rfl (l' := (o_t36 x y z frmL toL kq x0 x1 y0 y1 nn sn pp)) rfl k) ?_
 refine o_q T2 (o_f36 m 132 x y z frmL toL kq x0 x1 y0 y1 nn sn pp [(.ref pp)]) (fun _ k => XS.aload Xm2.here hx rfl (hb hby at_130) rfl rfl k) ?_
 refine o_q T2 (o_f36 m 134 x y z frmL toL kq x0 x1 y0 y1 nn sn pp [(.long x0), (.ref pp)]) (fun _ k => XS.lload Xm2.here hx rfl (hb hby at_132) rfl k) ?_
 refine o_q T2 (o_f36 m 136 x y z frmL toL kq x0 x1 y0 y1 nn sn pp [(.long x1), (.long x0), (.ref pp)]) (fun _ k => XS.lload Xm2.here hx rfl (hb hby at_134) rfl k) ?_
 refine o_q T2 (o_f36 m 137 x y z frmL toL kq x0 x1 y0 y1 nn sn pp [(.int (1 : Int32)), (.long x1), (.long x0), (.ref pp)]) (fun _ k => XS.iconst Xm2.here hx rfl (hb hby at_136) k) ?_
 have hP18 : o_Pr Z n0 pp rc ru wa tmi fri (1 : Int32) (0 : Int32) (4 : Int32) (0 : Int64) (0 : Int64) xsi fsi (fun _ => 0) h2 := ⟨Ep3, Er3, Ew3, F3_cpus, F3_times, F3_free, F3_head, F3_tail, F3_lastAt, F3_runs, F3_firstKnown, F3_watcher, F3_watchedAs, F3_changes, F3_merged, F3_gaveBack, F3_recent, Fn3, At3, Af3, Ar3, nt3, wl3, gp3, gt3, gf3, gr3, gu3⟩
 have q20 : (1 : Int32).toInt + 2 ≤ 32 := by
  have k1 : (1 : Int32).toInt = 1 := by decide
  omega
 obtain ⟨T19, h19, L19, tm19, fr19, tl19, la19, LL19, xs19, fs19, X19, e19, N19, hR19, ba19, bb19, bc19, bd19, be19, bf19, st19⟩ := o_bookX_m1 hw n0 pp rc ru wa tmi fri (1 : Int32) (0 : Int32) (4 : Int32) (0 : Int64) (0 : Int64) xsi fsi (fun _ => 0) x0 x1 0 16 16 15 16 Xm2 hx hZ e2 hown hP18 (by decide) (by decide) (by decide) q20 hxx (by decide) (by decide) (by unfold o_D; omega) Sg0 (fun q => absurd q (by decide)) (g := (o_f36 m 137 x y z frmL toL kq x0 x1 y0 y1 nn sn pp [(.int (1 : Int32)), (.long x1), (.long x0), (.ref pp)])) rfl (by rw [hml]; rfl) rfl rfl (hb hby at_137)
 have N_19 := Fr.app N_2 N19
 obtain ⟨Ep21, Er21, Ew21, F21_cpus, F21_times, F21_free, F21_head, F21_tail, F21_lastAt, F21_runs, F21_firstKnown, F21_watcher, F21_watchedAs, F21_changes, F21_merged, F21_gaveBack, F21_recent, Fn21, At21, Af21, Ar21, nt21, wl21, gp21, gt21, gf21, gr21, gu21⟩ := hR19
 have ne22 : o_ne pp ru := Ep21.ne Er21 (by decide)
 have ne23 : o_ne pp tm19 := At21.neExa Ep21 (o_m hw 8 rfl)
 have ne24 : o_ne ru tm19 := At21.neExa Er21 (o_m hw 17 rfl)
 have ne25 : o_ne pp fr19 := Af21.neExa Ep21 (o_m hw 8 rfl)
 have ne26 : o_ne ru fr19 := Af21.neExa Er21 (o_m hw 17 rfl)
 have ne27 : o_ne pp rc := Ar21.neExa Ep21 (o_m hw 8 rfl)
 have ne28 : o_ne ru rc := Ar21.neExa Er21 (o_m hw 17 rfl)
 have ne29 : o_ne wa pp := Nat.ne_of_lt (Nat.lt_of_lt_of_le wl21 gp21)
 have ne30 : o_ne wa tm19 := Nat.ne_of_lt (Nat.lt_of_lt_of_le wl21 gt21)
 have ne31 : o_ne wa fr19 := Nat.ne_of_lt (Nat.lt_of_lt_of_le wl21 gf21)
 have ne32 : o_ne wa rc := Nat.ne_of_lt (Nat.lt_of_lt_of_le wl21 gr21)
 have ne33 : o_ne wa ru := Nat.ne_of_lt (Nat.lt_of_lt_of_le wl21 gu21)
 have ne34 : o_ne tm19 fr19 := At21.ne Af21 (by intro q; cases q)
 have ne35 : o_ne fr19 rc := Af21.ne Ar21 (by intro q; cases q)
 refine o_q T19 (o_f36 m 140 x y z frmL toL kq x0 x1 y0 y1 nn sn pp []) st19 ?_
 refine o_q T19 (o_f36 m 142 x y z frmL toL kq x0 x1 y0 y1 nn sn pp [(.int nn)]) (fun _ k => XS.iload X19.here hx rfl (hb hby at_140) rfl k) ?_
 refine o_q T19 (o_f36 m 143 x y z frmL toL kq x0 x1 y0 y1 nn sn pp [(.int (2 : Int32)), (.int nn)]) (fun _ k => XS.iconst X19.here hx rfl (hb hby at_142) k) ?_
 by_cases c0 : nn < (2 : Int32)
 ·refine o_q T19 (o_f36 m 156 x y z frmL toL kq x0 x1 y0 y1 nn sn pp []) (fun _ k => XS.icmpYes X19.here hx rfl (pc0 := 143) (pc' := 156) rfl (hb hby at_143) rfl (tlt c0).1 (by decide) (by decide) k) ?_
  refine o_q T19 (o_f36 m 158 x y z frmL toL kq x0 x1 y0 y1 nn sn pp [(.int nn)]) (fun _ k => XS.iload X19.here hx rfl (hb hby at_156) rfl k) ?_
  refine o_q T19 (o_f36 m 159 x y z frmL toL kq x0 x1 y0 y1 nn sn pp [(.int (3 : Int32)), (.int nn)]) (fun _ k => XS.iconst X19.here hx rfl (hb hby at_158) k) ?_
  have q36 : nn.toInt < (3 : Int32).toInt := by
   have r1 := rng32 nn
   have k2 : (3 : Int32).toInt = 3 := by decide
   have k3 : (2 : Int32).toInt = 2 := by decide
   have d0 : nn.toInt < (2 : Int32).toInt := Int32.lt_iff_toInt_lt.mp c0
   omega
  refine o_q T19 (o_f36 m 170 x y z frmL toL kq x0 x1 y0 y1 nn sn pp []) (fun _ k => XS.icmpYes X19.here hx rfl (pc0 := 159) (pc' := 170) rfl (hb hby at_159) rfl (tlt (Int32.lt_iff_toInt_lt.mpr q36)).1 (by decide) (by decide) k) ?_
  refine o_q T19 (o_f36 m 172 x y z frmL toL kq x0 x1 y0 y1 nn sn pp [(.int nn)]) (fun _ k => XS.iload X19.here hx rfl (hb hby at_170) rfl k) ?_
  refine o_q T19 (o_f36 m 173 x y z frmL toL kq x0 x1 y0 y1 nn sn pp [(.int (4 : Int32)), (.int nn)]) (fun _ k => XS.iconst X19.here hx rfl (hb hby at_172) k) ?_
  have q37 : nn.toInt < (4 : Int32).toInt := by
   have r1 := rng32 nn
   have k2 : (4 : Int32).toInt = 4 := by decide
   have k3 : (2 : Int32).toInt = 2 := by decide
   have d0 : nn.toInt < (2 : Int32).toInt := Int32.lt_iff_toInt_lt.mp c0
   omega
  refine o_q T19 (o_f36 m 188 x y z frmL toL kq x0 x1 y0 y1 nn sn pp []) (fun _ k => XS.icmpYes X19.here hx rfl (pc0 := 173) (pc' := 188) rfl (hb hby at_173) rfl (tlt (Int32.lt_iff_toInt_lt.mpr q37)).1 (by decide) (by decide) k) ?_
  refine o_q T19 (o_f36 m 190 x y z frmL toL kq x0 x1 y0 y1 nn sn pp [(.int nn)]) (fun _ k => XS.iload X19.here hx rfl (hb hby at_188) rfl k) ?_
  refine o_q T19 (o_f36 m 191 x y z frmL toL kq x0 x1 y0 y1 nn sn pp [(.int (5 : Int32)), (.int nn)]) (fun _ k => XS.iconst X19.here hx rfl (hb hby at_190) k) ?_
  have q38 : nn.toInt < (5 : Int32).toInt := by
   have r1 := rng32 nn
   have k2 : (5 : Int32).toInt = 5 := by decide
   have k3 : (2 : Int32).toInt = 2 := by decide
   have d0 : nn.toInt < (2 : Int32).toInt := Int32.lt_iff_toInt_lt.mp c0
   omega
  refine o_q T19 (o_f36 m 206 x y z frmL toL kq x0 x1 y0 y1 nn sn pp []) (fun _ k => XS.icmpYes X19.here hx rfl (pc0 := 191) (pc' := 206) rfl (hb hby at_191) rfl (tlt (Int32.lt_iff_toInt_lt.mpr q38)).1 (by decide) (by decide) k) ?_
  refine o_q T19 (o_f36 m 208 x y z frmL toL kq x0 x1 y0 y1 nn sn pp [(.int nn)]) (fun _ k => XS.iload X19.here hx rfl (hb hby at_206) rfl k) ?_
  refine o_q T19 (o_f36 m 210 x y z frmL toL kq x0 x1 y0 y1 nn sn pp [(.int (6 : Int32)), (.int nn)]) (fun _ k => XS.bipush X19.here hx rfl (hb hby at_208) k) ?_
  have q39 : nn.toInt < (6 : Int32).toInt := by
   have r1 := rng32 nn
   have k2 : (6 : Int32).toInt = 6 := by decide
   have k3 : (2 : Int32).toInt = 2 := by decide
   have d0 : nn.toInt < (2 : Int32).toInt := Int32.lt_iff_toInt_lt.mp c0
   omega
  refine o_q T19 (o_f36 m 225 x y z frmL toL kq x0 x1 y0 y1 nn sn pp []) (fun _ k => XS.icmpYes X19.here hx rfl (pc0 := 210) (pc' := 225) rfl (hb hby at_210) rfl (tlt (Int32.lt_iff_toInt_lt.mpr q39)).1 (by decide) (by decide) k) ?_
  refine o_q T19 (o_f36 m 227 x y z frmL toL kq x0 x1 y0 y1 nn sn pp [(.int nn)]) (fun _ k => XS.iload X19.here hx rfl (hb hby at_225) rfl k) ?_
  refine o_q T19 (o_f36 m 229 x y z frmL toL kq x0 x1 y0 y1 nn sn pp [(.int (7 : Int32)), (.int nn)]) (fun _ k => XS.bipush X19.here hx rfl (hb hby at_227) k) ?_
  have q40 : nn.toInt < (7 : Int32).toInt := by
   have r1 := rng32 nn
   have k2 : (7 : Int32).toInt = 7 := by decide
   have k3 : (2 : Int32).toInt = 2 := by decide
   have d0 : nn.toInt < (2 : Int32).toInt := Int32.lt_iff_toInt_lt.mp c0
   omega
  refine o_q T19 (o_f36 m 244 x y z frmL toL kq x0 x1 y0 y1 nn sn pp []) (fun _ k => XS.icmpYes X19.here hx rfl (pc0 := 229) (pc' := 244) rfl (hb hby at_229) rfl (tlt (Int32.lt_iff_toInt_lt.mpr q40)).1 (by decide) (by decide) k) ?_
  refine o_q T19 (o_f36 m 246 x y z frmL toL kq x0 x1 y0 y1 nn sn pp [(.int nn)]) (fun _ k => XS.iload X19.here hx rfl (hb hby at_244) rfl k) ?_
  refine o_q T19 (o_f36 m 248 x y z frmL toL kq x0 x1 y0 y1 nn sn pp [(.int (8 : Int32)), (.int nn)]) (fun _ k => XS.bipush X19.here hx rfl (hb hby at_246) k) ?_
  have q41 : nn.toInt < (8 : Int32).toInt := by
   have r1 := rng32 nn
   have k2 : (8 : Int32).toInt = 8 := by decide
   have k3 : (2 : Int32).toInt = 2 := by decide
   have d0 : nn.toInt < (2 : Int32).toInt := Int32.lt_iff_toInt_lt.mp c0
   omega
  refine o_q T19 (o_f36 m 263 x y z frmL toL kq x0 x1 y0 y1 nn sn pp []) (fun _ k => XS.icmpYes X19.here hx rfl (pc0 := 248) (pc' := 263) rfl (hb hby at_248) rfl (tlt (Int32.lt_iff_toInt_lt.mpr q41)).1 (by decide) (by decide) k) ?_
  refine o_q T19 (o_f36 m 265 x y z frmL toL kq x0 x1 y0 y1 nn sn pp [(.int nn)]) (fun _ k => XS.iload X19.here hx rfl (hb hby at_263) rfl k) ?_
  refine o_q T19 (o_f36 m 267 x y z frmL toL kq x0 x1 y0 y1 nn sn pp [(.int (9 : Int32)), (.int nn)]) (fun _ k => XS.bipush X19.here hx rfl (hb hby at_265) k) ?_
  have q42 : nn.toInt < (9 : Int32).toInt := by
   have r1 := rng32 nn
   have k2 : (9 : Int32).toInt = 9 := by decide
   have k3 : (2 : Int32).toInt = 2 := by decide
   have d0 : nn.toInt < (2 : Int32).toInt := Int32.lt_iff_toInt_lt.mp c0
   omega
  refine o_q T19 (o_f36 m 282 x y z frmL toL kq x0 x1 y0 y1 nn sn pp []) (fun _ k => XS.icmpYes X19.here hx rfl (pc0 := 267) (pc' := 282) rfl (hb hby at_267) rfl (tlt (Int32.lt_iff_toInt_lt.mpr q42)).1 (by decide) (by decide) k) ?_
  refine o_q T19 (o_f36 m 284 x y z frmL toL kq x0 x1 y0 y1 nn sn pp [(.ref pp)]) (fun _ k => XS.aload X19.here hx rfl (hb hby at_282) rfl rfl k) ?_
  refine o_q T19 (o_f36 m 286 x y z frmL toL kq x0 x1 y0 y1 nn sn pp [(.int sn), (.ref pp)]) (fun _ k => XS.iload X19.here hx rfl (hb hby at_284) rfl k) ?_
  refine o_q T19 (o_f36 m 287 x y z frmL toL kq x0 x1 y0 y1 nn sn pp [(.long (sn).toInt64), (.ref pp)]) (fun _ k => XS.i2l X19.here hx rfl (hb hby at_286) rfl k) ?_
  refine o_q T19 (o_f36 m 289 x y z frmL toL kq x0 x1 y0 y1 nn sn pp [(.long frmL), (.long (sn).toInt64), (.ref pp)]) (fun _ k => XS.lload X19.here hx rfl (hb hby at_287) rfl k) ?_
  refine o_q T19 (o_f36 m 291 x y z frmL toL kq x0 x1 y0 y1 nn sn pp [(.long toL), (.long frmL), (.long (sn).toInt64), (.ref pp)]) (fun _ k => XS.lload X19.here hx rfl (hb hby at_289) rfl k) ?_
  have hP43 : o_Pr Z n0 pp rc ru wa tm19 fr19 tl19 la19 LL19 ((0 : Int64) + (1 : Int64)) (0 : Int64) xs19 fs19 (o_put (fun _ => 0) (0 + 1) x0 x1 (0 : Int64)) h19 := ⟨Ep21, Er21, Ew21, F21_cpus, F21_times, F21_free, F21_head, F21_tail, F21_lastAt, F21_runs, F21_firstKnown, F21_watcher, F21_watchedAs, F21_changes, F21_merged, F21_gaveBack, F21_recent, Fn21, At21, Af21, Ar21, nt21, wl21, gp21, gt21, gf21, gr21, gu21⟩
  have nj44 : nn.toInt = 1 := by
   have r1 := rng32 nn
   have k2 : (2 : Int32).toInt = 2 := by decide
   have d0 : nn.toInt < (2 : Int32).toInt := Int32.lt_iff_toInt_lt.mp c0
   omega
  have nl44 : nn = (1 : Int32) := Int32.toInt_inj.mp (nj44.trans (by decide))
  have hs44 : ((sn).toInt64).toInt = ((sn.toNatClampNeg : Nat) : Int) := (c_i2l sn).trans (o_nat sn rs0.1).symm
  have sb44 : sn.toNatClampNeg ≤ 1 := by have := o_nat sn rs0.1; omega
  have cl44 := o_cL_le LL19
  have Xo44 : Stand p l e room_1 s m #[(.long x), (.long y), (.long z), (.long frmL), (.long toL), (.int kq)] below meth c T19 _ 12 258 := X19.more (by omega) (by omega)
  obtain ⟨v45, T45, L45, hQ45, X45, st45⟩ := o_callV Xo44 hx hZ e19 hown (o_m hw 126 rfl) (o_m hw 127 rfl) (o_m hw 129 rfl) (o_m hw 128 rfl) (by decide) (b := pp) Ep21 (o_m hw 130 rfl) (o_m hw 9 rfl) (o_over l Z a0 hw n0 pp rc ru wa tm19 fr19 tl19 la19 LL19 ((0 : Int64) + (1 : Int64)) (0 : Int64) xs19 fs19 (o_put (fun _ => 0) (0 + 1) x0 x1 (0 : Int64)) ((sn).toInt64) frmL toL 1 sn.toNatClampNeg h19 hP43 (by decide) hs44 sb44 (by decide)) (g := (o_f36 m 291 x y z frmL toL kq x0 x1 y0 y1 nn sn pp [(.long toL), (.long frmL), (.long (sn).toInt64), (.ref pp)])) rfl (by rw [hml]; rfl) rfl (argsL := [(.long (sn).toInt64), (.long frmL), (.long toL)]) (rest := []) rfl (lenOf o_pd10 rfl) rfl (hb hby at_291) (o_b rfl) (o_b rfl) (o_b rfl) (o_b rfl)
  obtain ⟨rfl, rfl, e45⟩ := hQ45
  rw [List.append_nil] at X45
  refine o_q T45 (o_f36 m 294 x y z frmL toL kq x0 x1 y0 y1 nn sn pp [(.int (o_co (o_put (fun _ => 0) (0 + 1) x0 x1 (0 : Int64)) frmL toL 1 sn.toNatClampNeg))]) st45 ?_
  refine o_q T45 (o_f31 m 296 x y z frmL toL kq x0 x1 y0 y1 nn sn pp (o_co (o_put (fun _ => 0) (0 + 1) x0 x1 (0 : Int64)) frmL toL 1 sn.toNatClampNeg) []) (fun _ k => XS.istore X45.here hx rfl (hb hby at_294) rfl (l' := (o_t31 x y z frmL toL kq x0 x1 y0 y1 nn sn pp (o_co (o_put (fun _ => 0) (0 + 1) x0 x1 (0 : Int64)) frmL toL 1 sn.toNatClampNeg))) rfl k) ?_
  have hg : (o_co (o_put (fun _ => 0) (0 + 1) x0 x1 (0 : Int64)) frmL toL 1 sn.toNatClampNeg) = o_w0 nn sn x0 x1 y0 y1 frmL toL := by rw [nl44]; exact o_fin1 sn ⟨rs0.1, by omega⟩ x0 x1 y0 y1 frmL toL
  exact o_J0 Z a0 hw n0 x y z frmL toL kq x0 x1 y0 y1 nn sn pp (o_co (o_put (fun _ => 0) (0 + 1) x0 x1 (0 : Int64)) frmL toL 1 sn.toNatClampNeg) hx hby hml hZ hown hret hlk X45 e45 N_19 hg
 ·refine o_q T19 (o_f36 m 146 x y z frmL toL kq x0 x1 y0 y1 nn sn pp []) (fun _ k => XS.icmpNo X19.here hx rfl (hb hby at_143) rfl (flt c0).1 k) ?_
  refine o_q T19 (o_f36 m 148 x y z frmL toL kq x0 x1 y0 y1 nn sn pp [(.ref pp)]) (fun _ k => XS.aload X19.here hx rfl (hb hby at_146) rfl rfl k) ?_
  refine o_q T19 (o_f36 m 150 x y z frmL toL kq x0 x1 y0 y1 nn sn pp [(.long y0), (.ref pp)]) (fun _ k => XS.lload X19.here hx rfl (hb hby at_148) rfl k) ?_
  refine o_q T19 (o_f36 m 152 x y z frmL toL kq x0 x1 y0 y1 nn sn pp [(.long y1), (.long y0), (.ref pp)]) (fun _ k => XS.lload X19.here hx rfl (hb hby at_150) rfl k) ?_
  refine o_q T19 (o_f36 m 153 x y z frmL toL kq x0 x1 y0 y1 nn sn pp [(.int (1 : Int32)), (.long y1), (.long y0), (.ref pp)]) (fun _ k => XS.iconst X19.here hx rfl (hb hby at_152) k) ?_
  have hP46 : o_Pr Z n0 pp rc ru wa tm19 fr19 tl19 la19 LL19 ((0 : Int64) + (1 : Int64)) (0 : Int64) xs19 fs19 (o_put (fun _ => 0) (0 + 1) x0 x1 (0 : Int64)) h19 := ⟨Ep21, Er21, Ew21, F21_cpus, F21_times, F21_free, F21_head, F21_tail, F21_lastAt, F21_runs, F21_firstKnown, F21_watcher, F21_watchedAs, F21_changes, F21_merged, F21_gaveBack, F21_recent, Fn21, At21, Af21, Ar21, nt21, wl21, gp21, gt21, gf21, gr21, gu21⟩
  have q48 : tl19.toInt + 2 ≤ 32 := by
   have r1 := rng32 tl19
   have k2 : (1 : Int32).toInt = 1 := by decide
   have r3 := rng32 nn
   have k4 : (2 : Int32).toInt = 2 := by decide
   have d0 : ¬ (nn.toInt < (2 : Int32).toInt) := mt Int32.lt_iff_toInt_lt.mpr c0
   omega
  obtain ⟨T47, h47, L47, tm47, fr47, tl47, la47, LL47, xs47, fs47, X47, e47, N47, hR47, ba47, bb47, bc47, bd47, be47, bf47, st47⟩ := o_bookX_m1 hw n0 pp rc ru wa tm19 fr19 tl19 la19 LL19 ((0 : Int64) + (1 : Int64)) (0 : Int64) xs19 fs19 (o_put (fun _ => 0) (0 + 1) x0 x1 (0 : Int64)) y0 y1 1 15 16 14 16 X19 hx hZ e19 hown hP46 ba19 bc19 bd19 q48 hyy (by decide) (by decide) (by unfold o_D; omega) bf19 (fun q => absurd q (by decide)) (g := (o_f36 m 153 x y z frmL toL kq x0 x1 y0 y1 nn sn pp [(.int (1 : Int32)), (.long y1), (.long y0), (.ref pp)])) rfl (by rw [hml]; rfl) rfl rfl (hb hby at_153)
  have N_47 := Fr.app N_19 N47
  obtain ⟨Ep49, Er49, Ew49, F49_cpus, F49_times, F49_free, F49_head, F49_tail, F49_lastAt, F49_runs, F49_firstKnown, F49_watcher, F49_watchedAs, F49_changes, F49_merged, F49_gaveBack, F49_recent, Fn49, At49, Af49, Ar49, nt49, wl49, gp49, gt49, gf49, gr49, gu49⟩ := hR47
  have ne50 : o_ne pp ru := Ep49.ne Er49 (by decide)
  have ne51 : o_ne pp tm47 := At49.neExa Ep49 (o_m hw 8 rfl)
  have ne52 : o_ne ru tm47 := At49.neExa Er49 (o_m hw 17 rfl)
  have ne53 : o_ne pp fr47 := Af49.neExa Ep49 (o_m hw 8 rfl)
  have ne54 : o_ne ru fr47 := Af49.neExa Er49 (o_m hw 17 rfl)
  have ne55 : o_ne pp rc := Ar49.neExa Ep49 (o_m hw 8 rfl)
  have ne56 : o_ne ru rc := Ar49.neExa Er49 (o_m hw 17 rfl)
  have ne57 : o_ne wa pp := Nat.ne_of_lt (Nat.lt_of_lt_of_le wl49 gp49)
  have ne58 : o_ne wa tm47 := Nat.ne_of_lt (Nat.lt_of_lt_of_le wl49 gt49)
  have ne59 : o_ne wa fr47 := Nat.ne_of_lt (Nat.lt_of_lt_of_le wl49 gf49)
  have ne60 : o_ne wa rc := Nat.ne_of_lt (Nat.lt_of_lt_of_le wl49 gr49)
  have ne61 : o_ne wa ru := Nat.ne_of_lt (Nat.lt_of_lt_of_le wl49 gu49)
  have ne62 : o_ne tm47 fr47 := At49.ne Af49 (by intro q; cases q)
  have ne63 : o_ne fr47 rc := Af49.ne Ar49 (by intro q; cases q)
  refine o_q T47 (o_f36 m 156 x y z frmL toL kq x0 x1 y0 y1 nn sn pp []) st47 ?_
  refine o_q T47 (o_f36 m 158 x y z frmL toL kq x0 x1 y0 y1 nn sn pp [(.int nn)]) (fun _ k => XS.iload X47.here hx rfl (hb hby at_156) rfl k) ?_
  refine o_q T47 (o_f36 m 159 x y z frmL toL kq x0 x1 y0 y1 nn sn pp [(.int (3 : Int32)), (.int nn)]) (fun _ k => XS.iconst X47.here hx rfl (hb hby at_158) k) ?_
  by_cases c1 : nn < (3 : Int32)
  ·refine o_q T47 (o_f36 m 170 x y z frmL toL kq x0 x1 y0 y1 nn sn pp []) (fun _ k => XS.icmpYes X47.here hx rfl (pc0 := 159) (pc' := 170) rfl (hb hby at_159) rfl (tlt c1).1 (by decide) (by decide) k) ?_
   refine o_q T47 (o_f36 m 172 x y z frmL toL kq x0 x1 y0 y1 nn sn pp [(.int nn)]) (fun _ k => XS.iload X47.here hx rfl (hb hby at_170) rfl k) ?_
   refine o_q T47 (o_f36 m 173 x y z frmL toL kq x0 x1 y0 y1 nn sn pp [(.int (4 : Int32)), (.int nn)]) (fun _ k => XS.iconst X47.here hx rfl (hb hby at_172) k) ?_
   have q64 : nn.toInt < (4 : Int32).toInt := by
    have r1 := rng32 nn
    have k2 : (4 : Int32).toInt = 4 := by decide
    have k3 : (2 : Int32).toInt = 2 := by decide
    have k4 : (3 : Int32).toInt = 3 := by decide
    have d0 : ¬ (nn.toInt < (2 : Int32).toInt) := mt Int32.lt_iff_toInt_lt.mpr c0
    have d1 : nn.toInt < (3 : Int32).toInt := Int32.lt_iff_toInt_lt.mp c1
    omega
   refine o_q T47 (o_f36 m 188 x y z frmL toL kq x0 x1 y0 y1 nn sn pp []) (fun _ k => XS.icmpYes X47.here hx rfl (pc0 := 173) (pc' := 188) rfl (hb hby at_173) rfl (tlt (Int32.lt_iff_toInt_lt.mpr q64)).1 (by decide) (by decide) k) ?_
   refine o_q T47 (o_f36 m 190 x y z frmL toL kq x0 x1 y0 y1 nn sn pp [(.int nn)]) (fun _ k => XS.iload X47.here hx rfl (hb hby at_188) rfl k) ?_
   refine o_q T47 (o_f36 m 191 x y z frmL toL kq x0 x1 y0 y1 nn sn pp [(.int (5 : Int32)), (.int nn)]) (fun _ k => XS.iconst X47.here hx rfl (hb hby at_190) k) ?_
   have q65 : nn.toInt < (5 : Int32).toInt := by
    have r1 := rng32 nn
    have k2 : (5 : Int32).toInt = 5 := by decide
    have k3 : (2 : Int32).toInt = 2 := by decide
    have k4 : (3 : Int32).toInt = 3 := by decide
    have d0 : ¬ (nn.toInt < (2 : Int32).toInt) := mt Int32.lt_iff_toInt_lt.mpr c0
    have d1 : nn.toInt < (3 : Int32).toInt := Int32.lt_iff_toInt_lt.mp c1
    omega
   refine o_q T47 (o_f36 m 206 x y z frmL toL kq x0 x1 y0 y1 nn sn pp []) (fun _ k => XS.icmpYes X47.here hx rfl (pc0 := 191) (pc' := 206) rfl (hb hby at_191) rfl (tlt (Int32.lt_iff_toInt_lt.mpr q65)).1 (by decide) (by decide) k) ?_
   refine o_q T47 (o_f36 m 208 x y z frmL toL kq x0 x1 y0 y1 nn sn pp [(.int nn)]) (fun _ k => XS.iload X47.here hx rfl (hb hby at_206) rfl k) ?_
   refine o_q T47 (o_f36 m 210 x y z frmL toL kq x0 x1 y0 y1 nn sn pp [(.int (6 : Int32)), (.int nn)]) (fun _ k => XS.bipush X47.here hx rfl (hb hby at_208) k) ?_
   have q66 : nn.toInt < (6 : Int32).toInt := by
    have r1 := rng32 nn
    have k2 : (6 : Int32).toInt = 6 := by decide
    have k3 : (2 : Int32).toInt = 2 := by decide
    have k4 : (3 : Int32).toInt = 3 := by decide
    have d0 : ¬ (nn.toInt < (2 : Int32).toInt) := mt Int32.lt_iff_toInt_lt.mpr c0
    have d1 : nn.toInt < (3 : Int32).toInt := Int32.lt_iff_toInt_lt.mp c1
    omega
   refine o_q T47 (o_f36 m 225 x y z frmL toL kq x0 x1 y0 y1 nn sn pp []) (fun _ k => XS.icmpYes X47.here hx rfl (pc0 := 210) (pc' := 225) rfl (hb hby at_210) rfl (tlt (Int32.lt_iff_toInt_lt.mpr q66)).1 (by decide) (by decide) k) ?_
   refine o_q T47 (o_f36 m 227 x y z frmL toL kq x0 x1 y0 y1 nn sn pp [(.int nn)]) (fun _ k => XS.iload X47.here hx rfl (hb hby at_225) rfl k) ?_
   refine o_q T47 (o_f36 m 229 x y z frmL toL kq x0 x1 y0 y1 nn sn pp [(.int (7 : Int32)), (.int nn)]) (fun _ k => XS.bipush X47.here hx rfl (hb hby at_227) k) ?_
   have q67 : nn.toInt < (7 : Int32).toInt := by
    have r1 := rng32 nn
    have k2 : (7 : Int32).toInt = 7 := by decide
    have k3 : (2 : Int32).toInt = 2 := by decide
    have k4 : (3 : Int32).toInt = 3 := by decide
    have d0 : ¬ (nn.toInt < (2 : Int32).toInt) := mt Int32.lt_iff_toInt_lt.mpr c0
    have d1 : nn.toInt < (3 : Int32).toInt := Int32.lt_iff_toInt_lt.mp c1
    omega
   refine o_q T47 (o_f36 m 244 x y z frmL toL kq x0 x1 y0 y1 nn sn pp []) (fun _ k => XS.icmpYes X47.here hx rfl (pc0 := 229) (pc' := 244) rfl (hb hby at_229) rfl (tlt (Int32.lt_iff_toInt_lt.mpr q67)).1 (by decide) (by decide) k) ?_
   refine o_q T47 (o_f36 m 246 x y z frmL toL kq x0 x1 y0 y1 nn sn pp [(.int nn)]) (fun _ k => XS.iload X47.here hx rfl (hb hby at_244) rfl k) ?_
   refine o_q T47 (o_f36 m 248 x y z frmL toL kq x0 x1 y0 y1 nn sn pp [(.int (8 : Int32)), (.int nn)]) (fun _ k => XS.bipush X47.here hx rfl (hb hby at_246) k) ?_
   have q68 : nn.toInt < (8 : Int32).toInt := by
    have r1 := rng32 nn
    have k2 : (8 : Int32).toInt = 8 := by decide
    have k3 : (2 : Int32).toInt = 2 := by decide
    have k4 : (3 : Int32).toInt = 3 := by decide
    have d0 : ¬ (nn.toInt < (2 : Int32).toInt) := mt Int32.lt_iff_toInt_lt.mpr c0
    have d1 : nn.toInt < (3 : Int32).toInt := Int32.lt_iff_toInt_lt.mp c1
    omega
   refine o_q T47 (o_f36 m 263 x y z frmL toL kq x0 x1 y0 y1 nn sn pp []) (fun _ k => XS.icmpYes X47.here hx rfl (pc0 := 248) (pc' := 263) rfl (hb hby at_248) rfl (tlt (Int32.lt_iff_toInt_lt.mpr q68)).1 (by decide) (by decide) k) ?_
   refine o_q T47 (o_f36 m 265 x y z frmL toL kq x0 x1 y0 y1 nn sn pp [(.int nn)]) (fun _ k => XS.iload X47.here hx rfl (hb hby at_263) rfl k) ?_
   refine o_q T47 (o_f36 m 267 x y z frmL toL kq x0 x1 y0 y1 nn sn pp [(.int (9 : Int32)), (.int nn)]) (fun _ k => XS.bipush X47.here hx rfl (hb hby at_265) k) ?_
   have q69 : nn.toInt < (9 : Int32).toInt := by
    have r1 := rng32 nn
    have k2 : (9 : Int32).toInt = 9 := by decide
    have k3 : (2 : Int32).toInt = 2 := by decide
    have k4 : (3 : Int32).toInt = 3 := by decide
    have d0 : ¬ (nn.toInt < (2 : Int32).toInt) := mt Int32.lt_iff_toInt_lt.mpr c0
    have d1 : nn.toInt < (3 : Int32).toInt := Int32.lt_iff_toInt_lt.mp c1
    omega
   refine o_q T47 (o_f36 m 282 x y z frmL toL kq x0 x1 y0 y1 nn sn pp []) (fun _ k => XS.icmpYes X47.here hx rfl (pc0 := 267) (pc' := 282) rfl (hb hby at_267) rfl (tlt (Int32.lt_iff_toInt_lt.mpr q69)).1 (by decide) (by decide) k) ?_
   refine o_q T47 (o_f36 m 284 x y z frmL toL kq x0 x1 y0 y1 nn sn pp [(.ref pp)]) (fun _ k => XS.aload X47.here hx rfl (hb hby at_282) rfl rfl k) ?_
   refine o_q T47 (o_f36 m 286 x y z frmL toL kq x0 x1 y0 y1 nn sn pp [(.int sn), (.ref pp)]) (fun _ k => XS.iload X47.here hx rfl (hb hby at_284) rfl k) ?_
   refine o_q T47 (o_f36 m 287 x y z frmL toL kq x0 x1 y0 y1 nn sn pp [(.long (sn).toInt64), (.ref pp)]) (fun _ k => XS.i2l X47.here hx rfl (hb hby at_286) rfl k) ?_
   refine o_q T47 (o_f36 m 289 x y z frmL toL kq x0 x1 y0 y1 nn sn pp [(.long frmL), (.long (sn).toInt64), (.ref pp)]) (fun _ k => XS.lload X47.here hx rfl (hb hby at_287) rfl k) ?_
   refine o_q T47 (o_f36 m 291 x y z frmL toL kq x0 x1 y0 y1 nn sn pp [(.long toL), (.long frmL), (.long (sn).toInt64), (.ref pp)]) (fun _ k => XS.lload X47.here hx rfl (hb hby at_289) rfl k) ?_
   have hP70 : o_Pr Z n0 pp rc ru wa tm47 fr47 tl47 la47 LL47 (((0 : Int64) + (1 : Int64)) + (1 : Int64)) (0 : Int64) xs47 fs47 (o_put (o_put (fun _ => 0) (0 + 1) x0 x1 (0 : Int64)) (1 + 1) y0 y1 (0 : Int64)) h47 := ⟨Ep49, Er49, Ew49, F49_cpus, F49_times, F49_free, F49_head, F49_tail, F49_lastAt, F49_runs, F49_firstKnown, F49_watcher, F49_watchedAs, F49_changes, F49_merged, F49_gaveBack, F49_recent, Fn49, At49, Af49, Ar49, nt49, wl49, gp49, gt49, gf49, gr49, gu49⟩
   have nj71 : nn.toInt = 2 := by
    have r1 := rng32 nn
    have k2 : (2 : Int32).toInt = 2 := by decide
    have k3 : (3 : Int32).toInt = 3 := by decide
    have d0 : ¬ (nn.toInt < (2 : Int32).toInt) := mt Int32.lt_iff_toInt_lt.mpr c0
    have d1 : nn.toInt < (3 : Int32).toInt := Int32.lt_iff_toInt_lt.mp c1
    omega
   have nl71 : nn = (2 : Int32) := Int32.toInt_inj.mp (nj71.trans (by decide))
   have hs71 : ((sn).toInt64).toInt = ((sn.toNatClampNeg : Nat) : Int) := (c_i2l sn).trans (o_nat sn rs0.1).symm
   have sb71 : sn.toNatClampNeg ≤ 2 := by have := o_nat sn rs0.1; omega
   have cl71 := o_cL_le LL47
   have Xo71 : Stand p l e room_1 s m #[(.long x), (.long y), (.long z), (.long frmL), (.long toL), (.int kq)] below meth c T47 _ 12 258 := X47.more (by omega) (by omega)
   obtain ⟨v72, T72, L72, hQ72, X72, st72⟩ := o_callV Xo71 hx hZ e47 hown (o_m hw 126 rfl) (o_m hw 127 rfl) (o_m hw 129 rfl) (o_m hw 128 rfl) (by decide) (b := pp) Ep49 (o_m hw 130 rfl) (o_m hw 9 rfl) (o_over l Z a0 hw n0 pp rc ru wa tm47 fr47 tl47 la47 LL47 (((0 : Int64) + (1 : Int64)) + (1 : Int64)) (0 : Int64) xs47 fs47 (o_put (o_put (fun _ => 0) (0 + 1) x0 x1 (0 : Int64)) (1 + 1) y0 y1 (0 : Int64)) ((sn).toInt64) frmL toL 2 sn.toNatClampNeg h47 hP70 (by decide) hs71 sb71 (by decide)) (g := (o_f36 m 291 x y z frmL toL kq x0 x1 y0 y1 nn sn pp [(.long toL), (.long frmL), (.long (sn).toInt64), (.ref pp)])) rfl (by rw [hml]; rfl) rfl (argsL := [(.long (sn).toInt64), (.long frmL), (.long toL)]) (rest := []) rfl (lenOf o_pd10 rfl) rfl (hb hby at_291) (o_b rfl) (o_b rfl) (o_b rfl) (o_b rfl)
   obtain ⟨rfl, rfl, e72⟩ := hQ72
   rw [List.append_nil] at X72
   refine o_q T72 (o_f36 m 294 x y z frmL toL kq x0 x1 y0 y1 nn sn pp [(.int (o_co (o_put (o_put (fun _ => 0) (0 + 1) x0 x1 (0 : Int64)) (1 + 1) y0 y1 (0 : Int64)) frmL toL 2 sn.toNatClampNeg))]) st72 ?_
   refine o_q T72 (o_f31 m 296 x y z frmL toL kq x0 x1 y0 y1 nn sn pp (o_co (o_put (o_put (fun _ => 0) (0 + 1) x0 x1 (0 : Int64)) (1 + 1) y0 y1 (0 : Int64)) frmL toL 2 sn.toNatClampNeg) []) (fun _ k => XS.istore X72.here hx rfl (hb hby at_294) rfl (l' := (o_t31 x y z frmL toL kq x0 x1 y0 y1 nn sn pp (o_co (o_put (o_put (fun _ => 0) (0 + 1) x0 x1 (0 : Int64)) (1 + 1) y0 y1 (0 : Int64)) frmL toL 2 sn.toNatClampNeg))) rfl k) ?_
   have hg : (o_co (o_put (o_put (fun _ => 0) (0 + 1) x0 x1 (0 : Int64)) (1 + 1) y0 y1 (0 : Int64)) frmL toL 2 sn.toNatClampNeg) = o_w0 nn sn x0 x1 y0 y1 frmL toL := by rw [nl71]; exact o_fin2 sn ⟨rs0.1, by omega⟩ x0 x1 y0 y1 frmL toL
   exact o_J0 Z a0 hw n0 x y z frmL toL kq x0 x1 y0 y1 nn sn pp (o_co (o_put (o_put (fun _ => 0) (0 + 1) x0 x1 (0 : Int64)) (1 + 1) y0 y1 (0 : Int64)) frmL toL 2 sn.toNatClampNeg) hx hby hml hZ hown hret hlk X72 e72 N_47 hg
  ·refine o_q T47 (o_f36 m 162 x y z frmL toL kq x0 x1 y0 y1 nn sn pp []) (fun _ k => XS.icmpNo X47.here hx rfl (hb hby at_159) rfl (flt c1).1 k) ?_
   refine o_q T47 (o_f36 m 164 x y z frmL toL kq x0 x1 y0 y1 nn sn pp [(.ref pp)]) (fun _ k => XS.aload X47.here hx rfl (hb hby at_162) rfl rfl k) ?_
   refine o_q T47 (o_f36 m 165 x y z frmL toL kq x0 x1 y0 y1 nn sn pp [(.long (0 : Int64)), (.ref pp)]) (fun _ k => XS.lconst X47.here hx rfl (hb hby at_164) k) ?_
   refine o_q T47 (o_f36 m 166 x y z frmL toL kq x0 x1 y0 y1 nn sn pp [(.long (1 : Int64)), (.long (0 : Int64)), (.ref pp)]) (fun _ k => XS.lconst X47.here hx rfl (hb hby at_165) k) ?_
   refine o_q T47 (o_f36 m 167 x y z frmL toL kq x0 x1 y0 y1 nn sn pp [(.int (1 : Int32)), (.long (1 : Int64)), (.long (0 : Int64)), (.ref pp)]) (fun _ k => XS.iconst X47.here hx rfl (hb hby at_166) k) ?_
   have hP73 : o_Pr Z n0 pp rc ru wa tm47 fr47 tl47 la47 LL47 (((0 : Int64) + (1 : Int64)) + (1 : Int64)) (0 : Int64) xs47 fs47 (o_put (o_put (fun _ => 0) (0 + 1) x0 x1 (0 : Int64)) (1 + 1) y0 y1 (0 : Int64)) h47 := ⟨Ep49, Er49, Ew49, F49_cpus, F49_times, F49_free, F49_head, F49_tail, F49_lastAt, F49_runs, F49_firstKnown, F49_watcher, F49_watchedAs, F49_changes, F49_merged, F49_gaveBack, F49_recent, Fn49, At49, Af49, Ar49, nt49, wl49, gp49, gt49, gf49, gr49, gu49⟩
   have q75 : tl47.toInt + 2 ≤ 32 := by
    have r1 := rng32 tl47
    have k2 : (1 : Int32).toInt = 1 := by decide
    have r3 := rng32 nn
    have k4 : (2 : Int32).toInt = 2 := by decide
    have k5 : (3 : Int32).toInt = 3 := by decide
    have d0 : ¬ (nn.toInt < (2 : Int32).toInt) := mt Int32.lt_iff_toInt_lt.mpr c0
    have d1 : ¬ (nn.toInt < (3 : Int32).toInt) := mt Int32.lt_iff_toInt_lt.mpr c1
    omega
   obtain ⟨T74, h74, L74, tm74, fr74, tl74, la74, LL74, xs74, fs74, X74, e74, N74, hR74, ba74, bb74, bc74, bd74, be74, bf74, st74⟩ := o_bookX_m1 hw n0 pp rc ru wa tm47 fr47 tl47 la47 LL47 (((0 : Int64) + (1 : Int64)) + (1 : Int64)) (0 : Int64) xs47 fs47 (o_put (o_put (fun _ => 0) (0 + 1) x0 x1 (0 : Int64)) (1 + 1) y0 y1 (0 : Int64)) (0 : Int64) (1 : Int64) 2 14 16 13 16 X47 hx hZ e47 hown hP73 ba47 bc47 bd47 q75 (by decide) (by decide) (by decide) (by unfold o_D; omega) bf47 (fun q => absurd q (by decide)) (g := (o_f36 m 167 x y z frmL toL kq x0 x1 y0 y1 nn sn pp [(.int (1 : Int32)), (.long (1 : Int64)), (.long (0 : Int64)), (.ref pp)])) rfl (by rw [hml]; rfl) rfl rfl (hb hby at_167)
   have N_74 := Fr.app N_47 N74
   obtain ⟨Ep76, Er76, Ew76, F76_cpus, F76_times, F76_free, F76_head, F76_tail, F76_lastAt, F76_runs, F76_firstKnown, F76_watcher, F76_watchedAs, F76_changes, F76_merged, F76_gaveBack, F76_recent, Fn76, At76, Af76, Ar76, nt76, wl76, gp76, gt76, gf76, gr76, gu76⟩ := hR74
   have ne77 : o_ne pp ru := Ep76.ne Er76 (by decide)
   have ne78 : o_ne pp tm74 := At76.neExa Ep76 (o_m hw 8 rfl)
   have ne79 : o_ne ru tm74 := At76.neExa Er76 (o_m hw 17 rfl)
   have ne80 : o_ne pp fr74 := Af76.neExa Ep76 (o_m hw 8 rfl)
   have ne81 : o_ne ru fr74 := Af76.neExa Er76 (o_m hw 17 rfl)
   have ne82 : o_ne pp rc := Ar76.neExa Ep76 (o_m hw 8 rfl)
   have ne83 : o_ne ru rc := Ar76.neExa Er76 (o_m hw 17 rfl)
   have ne84 : o_ne wa pp := Nat.ne_of_lt (Nat.lt_of_lt_of_le wl76 gp76)
   have ne85 : o_ne wa tm74 := Nat.ne_of_lt (Nat.lt_of_lt_of_le wl76 gt76)
   have ne86 : o_ne wa fr74 := Nat.ne_of_lt (Nat.lt_of_lt_of_le wl76 gf76)
   have ne87 : o_ne wa rc := Nat.ne_of_lt (Nat.lt_of_lt_of_le wl76 gr76)
   have ne88 : o_ne wa ru := Nat.ne_of_lt (Nat.lt_of_lt_of_le wl76 gu76)
   have ne89 : o_ne tm74 fr74 := At76.ne Af76 (by intro q; cases q)
   have ne90 : o_ne fr74 rc := Af76.ne Ar76 (by intro q; cases q)
   refine o_q T74 (o_f36 m 170 x y z frmL toL kq x0 x1 y0 y1 nn sn pp []) st74 ?_
   refine o_q T74 (o_f36 m 172 x y z frmL toL kq x0 x1 y0 y1 nn sn pp [(.int nn)]) (fun _ k => XS.iload X74.here hx rfl (hb hby at_170) rfl k) ?_
   refine o_q T74 (o_f36 m 173 x y z frmL toL kq x0 x1 y0 y1 nn sn pp [(.int (4 : Int32)), (.int nn)]) (fun _ k => XS.iconst X74.here hx rfl (hb hby at_172) k) ?_
   by_cases c2 : nn < (4 : Int32)
   ·refine o_q T74 (o_f36 m 188 x y z frmL toL kq x0 x1 y0 y1 nn sn pp []) (fun _ k => XS.icmpYes X74.here hx rfl (pc0 := 173) (pc' := 188) rfl (hb hby at_173) rfl (tlt c2).1 (by decide) (by decide) k) ?_
    refine o_q T74 (o_f36 m 190 x y z frmL toL kq x0 x1 y0 y1 nn sn pp [(.int nn)]) (fun _ k => XS.iload X74.here hx rfl (hb hby at_188) rfl k) ?_
    refine o_q T74 (o_f36 m 191 x y z frmL toL kq x0 x1 y0 y1 nn sn pp [(.int (5 : Int32)), (.int nn)]) (fun _ k => XS.iconst X74.here hx rfl (hb hby at_190) k) ?_
    have q91 : nn.toInt < (5 : Int32).toInt := by
     have r1 := rng32 nn
     have k2 : (5 : Int32).toInt = 5 := by decide
     have k3 : (2 : Int32).toInt = 2 := by decide
     have k4 : (3 : Int32).toInt = 3 := by decide
     have k5 : (4 : Int32).toInt = 4 := by decide
     have d0 : ¬ (nn.toInt < (2 : Int32).toInt) := mt Int32.lt_iff_toInt_lt.mpr c0
     have d1 : ¬ (nn.toInt < (3 : Int32).toInt) := mt Int32.lt_iff_toInt_lt.mpr c1
     have d2 : nn.toInt < (4 : Int32).toInt := Int32.lt_iff_toInt_lt.mp c2
     omega
    refine o_q T74 (o_f36 m 206 x y z frmL toL kq x0 x1 y0 y1 nn sn pp []) (fun _ k => XS.icmpYes X74.here hx rfl (pc0 := 191) (pc' := 206) rfl (hb hby at_191) rfl (tlt (Int32.lt_iff_toInt_lt.mpr q91)).1 (by decide) (by decide) k) ?_
    refine o_q T74 (o_f36 m 208 x y z frmL toL kq x0 x1 y0 y1 nn sn pp [(.int nn)]) (fun _ k => XS.iload X74.here hx rfl (hb hby at_206) rfl k) ?_
    refine o_q T74 (o_f36 m 210 x y z frmL toL kq x0 x1 y0 y1 nn sn pp [(.int (6 : Int32)), (.int nn)]) (fun _ k => XS.bipush X74.here hx rfl (hb hby at_208) k) ?_
    have q92 : nn.toInt < (6 : Int32).toInt := by
     have r1 := rng32 nn
     have k2 : (6 : Int32).toInt = 6 := by decide
     have k3 : (2 : Int32).toInt = 2 := by decide
     have k4 : (3 : Int32).toInt = 3 := by decide
     have k5 : (4 : Int32).toInt = 4 := by decide
     have d0 : ¬ (nn.toInt < (2 : Int32).toInt) := mt Int32.lt_iff_toInt_lt.mpr c0
     have d1 : ¬ (nn.toInt < (3 : Int32).toInt) := mt Int32.lt_iff_toInt_lt.mpr c1
     have d2 : nn.toInt < (4 : Int32).toInt := Int32.lt_iff_toInt_lt.mp c2
     omega
    refine o_q T74 (o_f36 m 225 x y z frmL toL kq x0 x1 y0 y1 nn sn pp []) (fun _ k => XS.icmpYes X74.here hx rfl (pc0 := 210) (pc' := 225) rfl (hb hby at_210) rfl (tlt (Int32.lt_iff_toInt_lt.mpr q92)).1 (by decide) (by decide) k) ?_
    refine o_q T74 (o_f36 m 227 x y z frmL toL kq x0 x1 y0 y1 nn sn pp [(.int nn)]) (fun _ k => XS.iload X74.here hx rfl (hb hby at_225) rfl k) ?_
    refine o_q T74 (o_f36 m 229 x y z frmL toL kq x0 x1 y0 y1 nn sn pp [(.int (7 : Int32)), (.int nn)]) (fun _ k => XS.bipush X74.here hx rfl (hb hby at_227) k) ?_
    have q93 : nn.toInt < (7 : Int32).toInt := by
     have r1 := rng32 nn
     have k2 : (7 : Int32).toInt = 7 := by decide
     have k3 : (2 : Int32).toInt = 2 := by decide
     have k4 : (3 : Int32).toInt = 3 := by decide
     have k5 : (4 : Int32).toInt = 4 := by decide
     have d0 : ¬ (nn.toInt < (2 : Int32).toInt) := mt Int32.lt_iff_toInt_lt.mpr c0
     have d1 : ¬ (nn.toInt < (3 : Int32).toInt) := mt Int32.lt_iff_toInt_lt.mpr c1
     have d2 : nn.toInt < (4 : Int32).toInt := Int32.lt_iff_toInt_lt.mp c2
     omega
    refine o_q T74 (o_f36 m 244 x y z frmL toL kq x0 x1 y0 y1 nn sn pp []) (fun _ k => XS.icmpYes X74.here hx rfl (pc0 := 229) (pc' := 244) rfl (hb hby at_229) rfl (tlt (Int32.lt_iff_toInt_lt.mpr q93)).1 (by decide) (by decide) k) ?_
    refine o_q T74 (o_f36 m 246 x y z frmL toL kq x0 x1 y0 y1 nn sn pp [(.int nn)]) (fun _ k => XS.iload X74.here hx rfl (hb hby at_244) rfl k) ?_
    refine o_q T74 (o_f36 m 248 x y z frmL toL kq x0 x1 y0 y1 nn sn pp [(.int (8 : Int32)), (.int nn)]) (fun _ k => XS.bipush X74.here hx rfl (hb hby at_246) k) ?_
    have q94 : nn.toInt < (8 : Int32).toInt := by
     have r1 := rng32 nn
     have k2 : (8 : Int32).toInt = 8 := by decide
     have k3 : (2 : Int32).toInt = 2 := by decide
     have k4 : (3 : Int32).toInt = 3 := by decide
     have k5 : (4 : Int32).toInt = 4 := by decide
     have d0 : ¬ (nn.toInt < (2 : Int32).toInt) := mt Int32.lt_iff_toInt_lt.mpr c0
     have d1 : ¬ (nn.toInt < (3 : Int32).toInt) := mt Int32.lt_iff_toInt_lt.mpr c1
     have d2 : nn.toInt < (4 : Int32).toInt := Int32.lt_iff_toInt_lt.mp c2
     omega
    refine o_q T74 (o_f36 m 263 x y z frmL toL kq x0 x1 y0 y1 nn sn pp []) (fun _ k => XS.icmpYes X74.here hx rfl (pc0 := 248) (pc' := 263) rfl (hb hby at_248) rfl (tlt (Int32.lt_iff_toInt_lt.mpr q94)).1 (by decide) (by decide) k) ?_
    refine o_q T74 (o_f36 m 265 x y z frmL toL kq x0 x1 y0 y1 nn sn pp [(.int nn)]) (fun _ k => XS.iload X74.here hx rfl (hb hby at_263) rfl k) ?_
    refine o_q T74 (o_f36 m 267 x y z frmL toL kq x0 x1 y0 y1 nn sn pp [(.int (9 : Int32)), (.int nn)]) (fun _ k => XS.bipush X74.here hx rfl (hb hby at_265) k) ?_
    have q95 : nn.toInt < (9 : Int32).toInt := by
     have r1 := rng32 nn
     have k2 : (9 : Int32).toInt = 9 := by decide
     have k3 : (2 : Int32).toInt = 2 := by decide
     have k4 : (3 : Int32).toInt = 3 := by decide
     have k5 : (4 : Int32).toInt = 4 := by decide
     have d0 : ¬ (nn.toInt < (2 : Int32).toInt) := mt Int32.lt_iff_toInt_lt.mpr c0
     have d1 : ¬ (nn.toInt < (3 : Int32).toInt) := mt Int32.lt_iff_toInt_lt.mpr c1
     have d2 : nn.toInt < (4 : Int32).toInt := Int32.lt_iff_toInt_lt.mp c2
     omega
    refine o_q T74 (o_f36 m 282 x y z frmL toL kq x0 x1 y0 y1 nn sn pp []) (fun _ k => XS.icmpYes X74.here hx rfl (pc0 := 267) (pc' := 282) rfl (hb hby at_267) rfl (tlt (Int32.lt_iff_toInt_lt.mpr q95)).1 (by decide) (by decide) k) ?_
    refine o_q T74 (o_f36 m 284 x y z frmL toL kq x0 x1 y0 y1 nn sn pp [(.ref pp)]) (fun _ k => XS.aload X74.here hx rfl (hb hby at_282) rfl rfl k) ?_
    refine o_q T74 (o_f36 m 286 x y z frmL toL kq x0 x1 y0 y1 nn sn pp [(.int sn), (.ref pp)]) (fun _ k => XS.iload X74.here hx rfl (hb hby at_284) rfl k) ?_
    refine o_q T74 (o_f36 m 287 x y z frmL toL kq x0 x1 y0 y1 nn sn pp [(.long (sn).toInt64), (.ref pp)]) (fun _ k => XS.i2l X74.here hx rfl (hb hby at_286) rfl k) ?_
    refine o_q T74 (o_f36 m 289 x y z frmL toL kq x0 x1 y0 y1 nn sn pp [(.long frmL), (.long (sn).toInt64), (.ref pp)]) (fun _ k => XS.lload X74.here hx rfl (hb hby at_287) rfl k) ?_
    refine o_q T74 (o_f36 m 291 x y z frmL toL kq x0 x1 y0 y1 nn sn pp [(.long toL), (.long frmL), (.long (sn).toInt64), (.ref pp)]) (fun _ k => XS.lload X74.here hx rfl (hb hby at_289) rfl k) ?_
    have hP96 : o_Pr Z n0 pp rc ru wa tm74 fr74 tl74 la74 LL74 ((((0 : Int64) + (1 : Int64)) + (1 : Int64)) + (1 : Int64)) (0 : Int64) xs74 fs74 (o_put (o_put (o_put (fun _ => 0) (0 + 1) x0 x1 (0 : Int64)) (1 + 1) y0 y1 (0 : Int64)) (2 + 1) (0 : Int64) (1 : Int64) (0 : Int64)) h74 := ⟨Ep76, Er76, Ew76, F76_cpus, F76_times, F76_free, F76_head, F76_tail, F76_lastAt, F76_runs, F76_firstKnown, F76_watcher, F76_watchedAs, F76_changes, F76_merged, F76_gaveBack, F76_recent, Fn76, At76, Af76, Ar76, nt76, wl76, gp76, gt76, gf76, gr76, gu76⟩
    have nj97 : nn.toInt = 3 := by
     have r1 := rng32 nn
     have k2 : (2 : Int32).toInt = 2 := by decide
     have k3 : (3 : Int32).toInt = 3 := by decide
     have k4 : (4 : Int32).toInt = 4 := by decide
     have d0 : ¬ (nn.toInt < (2 : Int32).toInt) := mt Int32.lt_iff_toInt_lt.mpr c0
     have d1 : ¬ (nn.toInt < (3 : Int32).toInt) := mt Int32.lt_iff_toInt_lt.mpr c1
     have d2 : nn.toInt < (4 : Int32).toInt := Int32.lt_iff_toInt_lt.mp c2
     omega
    have nl97 : nn = (3 : Int32) := Int32.toInt_inj.mp (nj97.trans (by decide))
    have hs97 : ((sn).toInt64).toInt = ((sn.toNatClampNeg : Nat) : Int) := (c_i2l sn).trans (o_nat sn rs0.1).symm
    have sb97 : sn.toNatClampNeg ≤ 3 := by have := o_nat sn rs0.1; omega
    have cl97 := o_cL_le LL74
    have Xo97 : Stand p l e room_1 s m #[(.long x), (.long y), (.long z), (.long frmL), (.long toL), (.int kq)] below meth c T74 _ 12 258 := X74.more (by omega) (by omega)
    obtain ⟨v98, T98, L98, hQ98, X98, st98⟩ := o_callV Xo97 hx hZ e74 hown (o_m hw 126 rfl) (o_m hw 127 rfl) (o_m hw 129 rfl) (o_m hw 128 rfl) (by decide) (b := pp) Ep76 (o_m hw 130 rfl) (o_m hw 9 rfl) (o_over l Z a0 hw n0 pp rc ru wa tm74 fr74 tl74 la74 LL74 ((((0 : Int64) + (1 : Int64)) + (1 : Int64)) + (1 : Int64)) (0 : Int64) xs74 fs74 (o_put (o_put (o_put (fun _ => 0) (0 + 1) x0 x1 (0 : Int64)) (1 + 1) y0 y1 (0 : Int64)) (2 + 1) (0 : Int64) (1 : Int64) (0 : Int64)) ((sn).toInt64) frmL toL 3 sn.toNatClampNeg h74 hP96 (by decide) hs97 sb97 (by decide)) (g := (o_f36 m 291 x y z frmL toL kq x0 x1 y0 y1 nn sn pp [(.long toL), (.long frmL), (.long (sn).toInt64), (.ref pp)])) rfl (by rw [hml]; rfl) rfl (argsL := [(.long (sn).toInt64), (.long frmL), (.long toL)]) (rest := []) rfl (lenOf o_pd10 rfl) rfl (hb hby at_291) (o_b rfl) (o_b rfl) (o_b rfl) (o_b rfl)
    obtain ⟨rfl, rfl, e98⟩ := hQ98
    rw [List.append_nil] at X98
    refine o_q T98 (o_f36 m 294 x y z frmL toL kq x0 x1 y0 y1 nn sn pp [(.int (o_co (o_put (o_put (o_put (fun _ => 0) (0 + 1) x0 x1 (0 : Int64)) (1 + 1) y0 y1 (0 : Int64)) (2 + 1) (0 : Int64) (1 : Int64) (0 : Int64)) frmL toL 3 sn.toNatClampNeg))]) st98 ?_
    refine o_q T98 (o_f31 m 296 x y z frmL toL kq x0 x1 y0 y1 nn sn pp (o_co (o_put (o_put (o_put (fun _ => 0) (0 + 1) x0 x1 (0 : Int64)) (1 + 1) y0 y1 (0 : Int64)) (2 + 1) (0 : Int64) (1 : Int64) (0 : Int64)) frmL toL 3 sn.toNatClampNeg) []) (fun _ k => XS.istore X98.here hx rfl (hb hby at_294) rfl (l' := (o_t31 x y z frmL toL kq x0 x1 y0 y1 nn sn pp (o_co (o_put (o_put (o_put (fun _ => 0) (0 + 1) x0 x1 (0 : Int64)) (1 + 1) y0 y1 (0 : Int64)) (2 + 1) (0 : Int64) (1 : Int64) (0 : Int64)) frmL toL 3 sn.toNatClampNeg))) rfl k) ?_
    have hg : (o_co (o_put (o_put (o_put (fun _ => 0) (0 + 1) x0 x1 (0 : Int64)) (1 + 1) y0 y1 (0 : Int64)) (2 + 1) (0 : Int64) (1 : Int64) (0 : Int64)) frmL toL 3 sn.toNatClampNeg) = o_w0 nn sn x0 x1 y0 y1 frmL toL := by rw [nl97]; exact o_fin3 sn ⟨rs0.1, by omega⟩ x0 x1 y0 y1 frmL toL
    exact o_J0 Z a0 hw n0 x y z frmL toL kq x0 x1 y0 y1 nn sn pp (o_co (o_put (o_put (o_put (fun _ => 0) (0 + 1) x0 x1 (0 : Int64)) (1 + 1) y0 y1 (0 : Int64)) (2 + 1) (0 : Int64) (1 : Int64) (0 : Int64)) frmL toL 3 sn.toNatClampNeg) hx hby hml hZ hown hret hlk X98 e98 N_74 hg
   ·refine o_q T74 (o_f36 m 176 x y z frmL toL kq x0 x1 y0 y1 nn sn pp []) (fun _ k => XS.icmpNo X74.here hx rfl (hb hby at_173) rfl (flt c2).1 k) ?_
    refine o_q T74 (o_f36 m 178 x y z frmL toL kq x0 x1 y0 y1 nn sn pp [(.ref pp)]) (fun _ k => XS.aload X74.here hx rfl (hb hby at_176) rfl rfl k) ?_
    refine o_q T74 (o_f36 m 181 x y z frmL toL kq x0 x1 y0 y1 nn sn pp [(.long (-9223372036854775808 : Int64)), (.ref pp)]) (fun _ k => X74.ldc2Long hx hown (mvT hZ (o_m hw 153 rfl)) (g := (o_f36 m 178 x y z frmL toL kq x0 x1 y0 y1 nn sn pp [(.ref pp)])) rfl (hb hby at_178) _ k) ?_
    refine o_q T74 (o_f36 m 184 x y z frmL toL kq x0 x1 y0 y1 nn sn pp [(.long (-9223372036854775807 : Int64)), (.long (-9223372036854775808 : Int64)), (.ref pp)]) (fun _ k => X74.ldc2Long hx hown (mvT hZ (o_m hw 154 rfl)) (g := (o_f36 m 181 x y z frmL toL kq x0 x1 y0 y1 nn sn pp [(.long (-9223372036854775808 : Int64)), (.ref pp)])) rfl (hb hby at_181) _ k) ?_
    refine o_q T74 (o_f36 m 185 x y z frmL toL kq x0 x1 y0 y1 nn sn pp [(.int (1 : Int32)), (.long (-9223372036854775807 : Int64)), (.long (-9223372036854775808 : Int64)), (.ref pp)]) (fun _ k => XS.iconst X74.here hx rfl (hb hby at_184) k) ?_
    have hP99 : o_Pr Z n0 pp rc ru wa tm74 fr74 tl74 la74 LL74 ((((0 : Int64) + (1 : Int64)) + (1 : Int64)) + (1 : Int64)) (0 : Int64) xs74 fs74 (o_put (o_put (o_put (fun _ => 0) (0 + 1) x0 x1 (0 : Int64)) (1 + 1) y0 y1 (0 : Int64)) (2 + 1) (0 : Int64) (1 : Int64) (0 : Int64)) h74 := ⟨Ep76, Er76, Ew76, F76_cpus, F76_times, F76_free, F76_head, F76_tail, F76_lastAt, F76_runs, F76_firstKnown, F76_watcher, F76_watchedAs, F76_changes, F76_merged, F76_gaveBack, F76_recent, Fn76, At76, Af76, Ar76, nt76, wl76, gp76, gt76, gf76, gr76, gu76⟩
    have q101 : tl74.toInt + 2 ≤ 32 := by
     have r1 := rng32 tl74
     have k2 : (1 : Int32).toInt = 1 := by decide
     have r3 := rng32 nn
     have k4 : (2 : Int32).toInt = 2 := by decide
     have k5 : (3 : Int32).toInt = 3 := by decide
     have k6 : (4 : Int32).toInt = 4 := by decide
     have d0 : ¬ (nn.toInt < (2 : Int32).toInt) := mt Int32.lt_iff_toInt_lt.mpr c0
     have d1 : ¬ (nn.toInt < (3 : Int32).toInt) := mt Int32.lt_iff_toInt_lt.mpr c1
     have d2 : ¬ (nn.toInt < (4 : Int32).toInt) := mt Int32.lt_iff_toInt_lt.mpr c2
     omega
    obtain ⟨T100, h100, L100, tm100, fr100, tl100, la100, LL100, xs100, fs100, X100, e100, N100, hR100, ba100, bb100, bc100, bd100, be100, bf100, st100⟩ := o_bookX_m1 hw n0 pp rc ru wa tm74 fr74 tl74 la74 LL74 ((((0 : Int64) + (1 : Int64)) + (1 : Int64)) + (1 : Int64)) (0 : Int64) xs74 fs74 (o_put (o_put (o_put (fun _ => 0) (0 + 1) x0 x1 (0 : Int64)) (1 + 1) y0 y1 (0 : Int64)) (2 + 1) (0 : Int64) (1 : Int64) (0 : Int64)) (-9223372036854775808 : Int64) (-9223372036854775807 : Int64) 3 13 16 12 16 X74 hx hZ e74 hown hP99 ba74 bc74 bd74 q101 (by decide) (by decide) (by decide) (by unfold o_D; omega) bf74 (fun q => absurd q (by decide)) (g := (o_f36 m 185 x y z frmL toL kq x0 x1 y0 y1 nn sn pp [(.int (1 : Int32)), (.long (-9223372036854775807 : Int64)), (.long (-9223372036854775808 : Int64)), (.ref pp)])) rfl (by rw [hml]; rfl) rfl rfl (hb hby at_185)
    have N_100 := Fr.app N_74 N100
    obtain ⟨Ep102, Er102, Ew102, F102_cpus, F102_times, F102_free, F102_head, F102_tail, F102_lastAt, F102_runs, F102_firstKnown, F102_watcher, F102_watchedAs, F102_changes, F102_merged, F102_gaveBack, F102_recent, Fn102, At102, Af102, Ar102, nt102, wl102, gp102, gt102, gf102, gr102, gu102⟩ := hR100
    have ne103 : o_ne pp ru := Ep102.ne Er102 (by decide)
    have ne104 : o_ne pp tm100 := At102.neExa Ep102 (o_m hw 8 rfl)
    have ne105 : o_ne ru tm100 := At102.neExa Er102 (o_m hw 17 rfl)
    have ne106 : o_ne pp fr100 := Af102.neExa Ep102 (o_m hw 8 rfl)
    have ne107 : o_ne ru fr100 := Af102.neExa Er102 (o_m hw 17 rfl)
    have ne108 : o_ne pp rc := Ar102.neExa Ep102 (o_m hw 8 rfl)
    have ne109 : o_ne ru rc := Ar102.neExa Er102 (o_m hw 17 rfl)
    have ne110 : o_ne wa pp := Nat.ne_of_lt (Nat.lt_of_lt_of_le wl102 gp102)
    have ne111 : o_ne wa tm100 := Nat.ne_of_lt (Nat.lt_of_lt_of_le wl102 gt102)
    have ne112 : o_ne wa fr100 := Nat.ne_of_lt (Nat.lt_of_lt_of_le wl102 gf102)
    have ne113 : o_ne wa rc := Nat.ne_of_lt (Nat.lt_of_lt_of_le wl102 gr102)
    have ne114 : o_ne wa ru := Nat.ne_of_lt (Nat.lt_of_lt_of_le wl102 gu102)
    have ne115 : o_ne tm100 fr100 := At102.ne Af102 (by intro q; cases q)
    have ne116 : o_ne fr100 rc := Af102.ne Ar102 (by intro q; cases q)
    refine o_q T100 (o_f36 m 188 x y z frmL toL kq x0 x1 y0 y1 nn sn pp []) st100 ?_
    refine o_q T100 (o_f36 m 190 x y z frmL toL kq x0 x1 y0 y1 nn sn pp [(.int nn)]) (fun _ k => XS.iload X100.here hx rfl (hb hby at_188) rfl k) ?_
    refine o_q T100 (o_f36 m 191 x y z frmL toL kq x0 x1 y0 y1 nn sn pp [(.int (5 : Int32)), (.int nn)]) (fun _ k => XS.iconst X100.here hx rfl (hb hby at_190) k) ?_
    by_cases c3 : nn < (5 : Int32)
    ·refine o_q T100 (o_f36 m 206 x y z frmL toL kq x0 x1 y0 y1 nn sn pp []) (fun _ k => XS.icmpYes X100.here hx rfl (pc0 := 191) (pc' := 206) rfl (hb hby at_191) rfl (tlt c3).1 (by decide) (by decide) k) ?_
     refine o_q T100 (o_f36 m 208 x y z frmL toL kq x0 x1 y0 y1 nn sn pp [(.int nn)]) (fun _ k => XS.iload X100.here hx rfl (hb hby at_206) rfl k) ?_
     refine o_q T100 (o_f36 m 210 x y z frmL toL kq x0 x1 y0 y1 nn sn pp [(.int (6 : Int32)), (.int nn)]) (fun _ k => XS.bipush X100.here hx rfl (hb hby at_208) k) ?_
     have q117 : nn.toInt < (6 : Int32).toInt := by
      have r1 := rng32 nn
      have k2 : (6 : Int32).toInt = 6 := by decide
      have k3 : (2 : Int32).toInt = 2 := by decide
      have k4 : (3 : Int32).toInt = 3 := by decide
      have k5 : (4 : Int32).toInt = 4 := by decide
      have k6 : (5 : Int32).toInt = 5 := by decide
      have d0 : ¬ (nn.toInt < (2 : Int32).toInt) := mt Int32.lt_iff_toInt_lt.mpr c0
      have d1 : ¬ (nn.toInt < (3 : Int32).toInt) := mt Int32.lt_iff_toInt_lt.mpr c1
      have d2 : ¬ (nn.toInt < (4 : Int32).toInt) := mt Int32.lt_iff_toInt_lt.mpr c2
      have d3 : nn.toInt < (5 : Int32).toInt := Int32.lt_iff_toInt_lt.mp c3
      omega
     refine o_q T100 (o_f36 m 225 x y z frmL toL kq x0 x1 y0 y1 nn sn pp []) (fun _ k => XS.icmpYes X100.here hx rfl (pc0 := 210) (pc' := 225) rfl (hb hby at_210) rfl (tlt (Int32.lt_iff_toInt_lt.mpr q117)).1 (by decide) (by decide) k) ?_
     refine o_q T100 (o_f36 m 227 x y z frmL toL kq x0 x1 y0 y1 nn sn pp [(.int nn)]) (fun _ k => XS.iload X100.here hx rfl (hb hby at_225) rfl k) ?_
     refine o_q T100 (o_f36 m 229 x y z frmL toL kq x0 x1 y0 y1 nn sn pp [(.int (7 : Int32)), (.int nn)]) (fun _ k => XS.bipush X100.here hx rfl (hb hby at_227) k) ?_
     have q118 : nn.toInt < (7 : Int32).toInt := by
      have r1 := rng32 nn
      have k2 : (7 : Int32).toInt = 7 := by decide
      have k3 : (2 : Int32).toInt = 2 := by decide
      have k4 : (3 : Int32).toInt = 3 := by decide
      have k5 : (4 : Int32).toInt = 4 := by decide
      have k6 : (5 : Int32).toInt = 5 := by decide
      have d0 : ¬ (nn.toInt < (2 : Int32).toInt) := mt Int32.lt_iff_toInt_lt.mpr c0
      have d1 : ¬ (nn.toInt < (3 : Int32).toInt) := mt Int32.lt_iff_toInt_lt.mpr c1
      have d2 : ¬ (nn.toInt < (4 : Int32).toInt) := mt Int32.lt_iff_toInt_lt.mpr c2
      have d3 : nn.toInt < (5 : Int32).toInt := Int32.lt_iff_toInt_lt.mp c3
      omega
     refine o_q T100 (o_f36 m 244 x y z frmL toL kq x0 x1 y0 y1 nn sn pp []) (fun _ k => XS.icmpYes X100.here hx rfl (pc0 := 229) (pc' := 244) rfl (hb hby at_229) rfl (tlt (Int32.lt_iff_toInt_lt.mpr q118)).1 (by decide) (by decide) k) ?_
     refine o_q T100 (o_f36 m 246 x y z frmL toL kq x0 x1 y0 y1 nn sn pp [(.int nn)]) (fun _ k => XS.iload X100.here hx rfl (hb hby at_244) rfl k) ?_
     refine o_q T100 (o_f36 m 248 x y z frmL toL kq x0 x1 y0 y1 nn sn pp [(.int (8 : Int32)), (.int nn)]) (fun _ k => XS.bipush X100.here hx rfl (hb hby at_246) k) ?_
     have q119 : nn.toInt < (8 : Int32).toInt := by
      have r1 := rng32 nn
      have k2 : (8 : Int32).toInt = 8 := by decide
      have k3 : (2 : Int32).toInt = 2 := by decide
      have k4 : (3 : Int32).toInt = 3 := by decide
      have k5 : (4 : Int32).toInt = 4 := by decide
      have k6 : (5 : Int32).toInt = 5 := by decide
      have d0 : ¬ (nn.toInt < (2 : Int32).toInt) := mt Int32.lt_iff_toInt_lt.mpr c0
      have d1 : ¬ (nn.toInt < (3 : Int32).toInt) := mt Int32.lt_iff_toInt_lt.mpr c1
      have d2 : ¬ (nn.toInt < (4 : Int32).toInt) := mt Int32.lt_iff_toInt_lt.mpr c2
      have d3 : nn.toInt < (5 : Int32).toInt := Int32.lt_iff_toInt_lt.mp c3
      omega
     refine o_q T100 (o_f36 m 263 x y z frmL toL kq x0 x1 y0 y1 nn sn pp []) (fun _ k => XS.icmpYes X100.here hx rfl (pc0 := 248) (pc' := 263) rfl (hb hby at_248) rfl (tlt (Int32.lt_iff_toInt_lt.mpr q119)).1 (by decide) (by decide) k) ?_
     refine o_q T100 (o_f36 m 265 x y z frmL toL kq x0 x1 y0 y1 nn sn pp [(.int nn)]) (fun _ k => XS.iload X100.here hx rfl (hb hby at_263) rfl k) ?_
     refine o_q T100 (o_f36 m 267 x y z frmL toL kq x0 x1 y0 y1 nn sn pp [(.int (9 : Int32)), (.int nn)]) (fun _ k => XS.bipush X100.here hx rfl (hb hby at_265) k) ?_
     have q120 : nn.toInt < (9 : Int32).toInt := by
      have r1 := rng32 nn
      have k2 : (9 : Int32).toInt = 9 := by decide
      have k3 : (2 : Int32).toInt = 2 := by decide
      have k4 : (3 : Int32).toInt = 3 := by decide
      have k5 : (4 : Int32).toInt = 4 := by decide
      have k6 : (5 : Int32).toInt = 5 := by decide
      have d0 : ¬ (nn.toInt < (2 : Int32).toInt) := mt Int32.lt_iff_toInt_lt.mpr c0
      have d1 : ¬ (nn.toInt < (3 : Int32).toInt) := mt Int32.lt_iff_toInt_lt.mpr c1
      have d2 : ¬ (nn.toInt < (4 : Int32).toInt) := mt Int32.lt_iff_toInt_lt.mpr c2
      have d3 : nn.toInt < (5 : Int32).toInt := Int32.lt_iff_toInt_lt.mp c3
      omega
     refine o_q T100 (o_f36 m 282 x y z frmL toL kq x0 x1 y0 y1 nn sn pp []) (fun _ k => XS.icmpYes X100.here hx rfl (pc0 := 267) (pc' := 282) rfl (hb hby at_267) rfl (tlt (Int32.lt_iff_toInt_lt.mpr q120)).1 (by decide) (by decide) k) ?_
     refine o_q T100 (o_f36 m 284 x y z frmL toL kq x0 x1 y0 y1 nn sn pp [(.ref pp)]) (fun _ k => XS.aload X100.here hx rfl (hb hby at_282) rfl rfl k) ?_
     refine o_q T100 (o_f36 m 286 x y z frmL toL kq x0 x1 y0 y1 nn sn pp [(.int sn), (.ref pp)]) (fun _ k => XS.iload X100.here hx rfl (hb hby at_284) rfl k) ?_
     refine o_q T100 (o_f36 m 287 x y z frmL toL kq x0 x1 y0 y1 nn sn pp [(.long (sn).toInt64), (.ref pp)]) (fun _ k => XS.i2l X100.here hx rfl (hb hby at_286) rfl k) ?_
     refine o_q T100 (o_f36 m 289 x y z frmL toL kq x0 x1 y0 y1 nn sn pp [(.long frmL), (.long (sn).toInt64), (.ref pp)]) (fun _ k => XS.lload X100.here hx rfl (hb hby at_287) rfl k) ?_
     refine o_q T100 (o_f36 m 291 x y z frmL toL kq x0 x1 y0 y1 nn sn pp [(.long toL), (.long frmL), (.long (sn).toInt64), (.ref pp)]) (fun _ k => XS.lload X100.here hx rfl (hb hby at_289) rfl k) ?_
     have hP121 : o_Pr Z n0 pp rc ru wa tm100 fr100 tl100 la100 LL100 (((((0 : Int64) + (1 : Int64)) + (1 : Int64)) + (1 : Int64)) + (1 : Int64)) (0 : Int64) xs100 fs100 (o_put (o_put (o_put (o_put (fun _ => 0) (0 + 1) x0 x1 (0 : Int64)) (1 + 1) y0 y1 (0 : Int64)) (2 + 1) (0 : Int64) (1 : Int64) (0 : Int64)) (3 + 1) (-9223372036854775808 : Int64) (-9223372036854775807 : Int64) (0 : Int64)) h100 := ⟨Ep102, Er102, Ew102, F102_cpus, F102_times, F102_free, F102_head, F102_tail, F102_lastAt, F102_runs, F102_firstKnown, F102_watcher, F102_watchedAs, F102_changes, F102_merged, F102_gaveBack, F102_recent, Fn102, At102, Af102, Ar102, nt102, wl102, gp102, gt102, gf102, gr102, gu102⟩
     have nj122 : nn.toInt = 4 := by
      have r1 := rng32 nn
      have k2 : (2 : Int32).toInt = 2 := by decide
      have k3 : (3 : Int32).toInt = 3 := by decide
      have k4 : (4 : Int32).toInt = 4 := by decide
      have k5 : (5 : Int32).toInt = 5 := by decide
      have d0 : ¬ (nn.toInt < (2 : Int32).toInt) := mt Int32.lt_iff_toInt_lt.mpr c0
      have d1 : ¬ (nn.toInt < (3 : Int32).toInt) := mt Int32.lt_iff_toInt_lt.mpr c1
      have d2 : ¬ (nn.toInt < (4 : Int32).toInt) := mt Int32.lt_iff_toInt_lt.mpr c2
      have d3 : nn.toInt < (5 : Int32).toInt := Int32.lt_iff_toInt_lt.mp c3
      omega
     have nl122 : nn = (4 : Int32) := Int32.toInt_inj.mp (nj122.trans (by decide))
     have hs122 : ((sn).toInt64).toInt = ((sn.toNatClampNeg : Nat) : Int) := (c_i2l sn).trans (o_nat sn rs0.1).symm
     have sb122 : sn.toNatClampNeg ≤ 4 := by have := o_nat sn rs0.1; omega
     have cl122 := o_cL_le LL100
     have Xo122 : Stand p l e room_1 s m #[(.long x), (.long y), (.long z), (.long frmL), (.long toL), (.int kq)] below meth c T100 _ 12 258 := X100.more (by omega) (by omega)
     obtain ⟨v123, T123, L123, hQ123, X123, st123⟩ := o_callV Xo122 hx hZ e100 hown (o_m hw 126 rfl) (o_m hw 127 rfl) (o_m hw 129 rfl) (o_m hw 128 rfl) (by decide) (b := pp) Ep102 (o_m hw 130 rfl) (o_m hw 9 rfl) (o_over l Z a0 hw n0 pp rc ru wa tm100 fr100 tl100 la100 LL100 (((((0 : Int64) + (1 : Int64)) + (1 : Int64)) + (1 : Int64)) + (1 : Int64)) (0 : Int64) xs100 fs100 (o_put (o_put (o_put (o_put (fun _ => 0) (0 + 1) x0 x1 (0 : Int64)) (1 + 1) y0 y1 (0 : Int64)) (2 + 1) (0 : Int64) (1 : Int64) (0 : Int64)) (3 + 1) (-9223372036854775808 : Int64) (-9223372036854775807 : Int64) (0 : Int64)) ((sn).toInt64) frmL toL 4 sn.toNatClampNeg h100 hP121 (by decide) hs122 sb122 (by decide)) (g := (o_f36 m 291 x y z frmL toL kq x0 x1 y0 y1 nn sn pp [(.long toL), (.long frmL), (.long (sn).toInt64), (.ref pp)])) rfl (by rw [hml]; rfl) rfl (argsL := [(.long (sn).toInt64), (.long frmL), (.long toL)]) (rest := []) rfl (lenOf o_pd10 rfl) rfl (hb hby at_291) (o_b rfl) (o_b rfl) (o_b rfl) (o_b rfl)
     obtain ⟨rfl, rfl, e123⟩ := hQ123
     rw [List.append_nil] at X123
     refine o_q T123 (o_f36 m 294 x y z frmL toL kq x0 x1 y0 y1 nn sn pp [(.int (o_co (o_put (o_put (o_put (o_put (fun _ => 0) (0 + 1) x0 x1 (0 : Int64)) (1 + 1) y0 y1 (0 : Int64)) (2 + 1) (0 : Int64) (1 : Int64) (0 : Int64)) (3 + 1) (-9223372036854775808 : Int64) (-9223372036854775807 : Int64) (0 : Int64)) frmL toL 4 sn.toNatClampNeg))]) st123 ?_
     refine o_q T123 (o_f31 m 296 x y z frmL toL kq x0 x1 y0 y1 nn sn pp (o_co (o_put (o_put (o_put (o_put (fun _ => 0) (0 + 1) x0 x1 (0 : Int64)) (1 + 1) y0 y1 (0 : Int64)) (2 + 1) (0 : Int64) (1 : Int64) (0 : Int64)) (3 + 1) (-9223372036854775808 : Int64) (-9223372036854775807 : Int64) (0 : Int64)) frmL toL 4 sn.toNatClampNeg) []) (fun _ k => XS.istore X123.here hx rfl (hb hby at_294) rfl (l' := (o_t31 x y z frmL toL kq x0 x1 y0 y1 nn sn pp (o_co (o_put (o_put (o_put (o_put (fun _ => 0) (0 + 1) x0 x1 (0 : Int64)) (1 + 1) y0 y1 (0 : Int64)) (2 + 1) (0 : Int64) (1 : Int64) (0 : Int64)) (3 + 1) (-9223372036854775808 : Int64) (-9223372036854775807 : Int64) (0 : Int64)) frmL toL 4 sn.toNatClampNeg))) rfl k) ?_
     have hg : (o_co (o_put (o_put (o_put (o_put (fun _ => 0) (0 + 1) x0 x1 (0 : Int64)) (1 + 1) y0 y1 (0 : Int64)) (2 + 1) (0 : Int64) (1 : Int64) (0 : Int64)) (3 + 1) (-9223372036854775808 : Int64) (-9223372036854775807 : Int64) (0 : Int64)) frmL toL 4 sn.toNatClampNeg) = o_w0 nn sn x0 x1 y0 y1 frmL toL := by rw [nl122]; exact o_fin4 sn ⟨rs0.1, by omega⟩ x0 x1 y0 y1 frmL toL
     exact o_J0 Z a0 hw n0 x y z frmL toL kq x0 x1 y0 y1 nn sn pp (o_co (o_put (o_put (o_put (o_put (fun _ => 0) (0 + 1) x0 x1 (0 : Int64)) (1 + 1) y0 y1 (0 : Int64)) (2 + 1) (0 : Int64) (1 : Int64) (0 : Int64)) (3 + 1) (-9223372036854775808 : Int64) (-9223372036854775807 : Int64) (0 : Int64)) frmL toL 4 sn.toNatClampNeg) hx hby hml hZ hown hret hlk X123 e123 N_100 hg
    ·refine o_q T100 (o_f36 m 194 x y z frmL toL kq x0 x1 y0 y1 nn sn pp []) (fun _ k => XS.icmpNo X100.here hx rfl (hb hby at_191) rfl (flt c3).1 k) ?_
     refine o_q T100 (o_f36 m 196 x y z frmL toL kq x0 x1 y0 y1 nn sn pp [(.ref pp)]) (fun _ k => XS.aload X100.here hx rfl (hb hby at_194) rfl rfl k) ?_
     refine o_q T100 (o_f36 m 199 x y z frmL toL kq x0 x1 y0 y1 nn sn pp [(.long (9223372036854775806 : Int64)), (.ref pp)]) (fun _ k => X100.ldc2Long hx hown (mvT hZ (o_m hw 156 rfl)) (g := (o_f36 m 196 x y z frmL toL kq x0 x1 y0 y1 nn sn pp [(.ref pp)])) rfl (hb hby at_196) _ k) ?_
     refine o_q T100 (o_f36 m 202 x y z frmL toL kq x0 x1 y0 y1 nn sn pp [(.long (9223372036854775807 : Int64)), (.long (9223372036854775806 : Int64)), (.ref pp)]) (fun _ k => X100.ldc2Long hx hown (mvT hZ (o_m hw 155 rfl)) (g := (o_f36 m 199 x y z frmL toL kq x0 x1 y0 y1 nn sn pp [(.long (9223372036854775806 : Int64)), (.ref pp)])) rfl (hb hby at_199) _ k) ?_
     refine o_q T100 (o_f36 m 203 x y z frmL toL kq x0 x1 y0 y1 nn sn pp [(.int (1 : Int32)), (.long (9223372036854775807 : Int64)), (.long (9223372036854775806 : Int64)), (.ref pp)]) (fun _ k => XS.iconst X100.here hx rfl (hb hby at_202) k) ?_
     have hP124 : o_Pr Z n0 pp rc ru wa tm100 fr100 tl100 la100 LL100 (((((0 : Int64) + (1 : Int64)) + (1 : Int64)) + (1 : Int64)) + (1 : Int64)) (0 : Int64) xs100 fs100 (o_put (o_put (o_put (o_put (fun _ => 0) (0 + 1) x0 x1 (0 : Int64)) (1 + 1) y0 y1 (0 : Int64)) (2 + 1) (0 : Int64) (1 : Int64) (0 : Int64)) (3 + 1) (-9223372036854775808 : Int64) (-9223372036854775807 : Int64) (0 : Int64)) h100 := ⟨Ep102, Er102, Ew102, F102_cpus, F102_times, F102_free, F102_head, F102_tail, F102_lastAt, F102_runs, F102_firstKnown, F102_watcher, F102_watchedAs, F102_changes, F102_merged, F102_gaveBack, F102_recent, Fn102, At102, Af102, Ar102, nt102, wl102, gp102, gt102, gf102, gr102, gu102⟩
     have q126 : tl100.toInt + 2 ≤ 32 := by
      have r1 := rng32 tl100
      have k2 : (1 : Int32).toInt = 1 := by decide
      have r3 := rng32 nn
      have k4 : (2 : Int32).toInt = 2 := by decide
      have k5 : (3 : Int32).toInt = 3 := by decide
      have k6 : (4 : Int32).toInt = 4 := by decide
      have k7 : (5 : Int32).toInt = 5 := by decide
      have d0 : ¬ (nn.toInt < (2 : Int32).toInt) := mt Int32.lt_iff_toInt_lt.mpr c0
      have d1 : ¬ (nn.toInt < (3 : Int32).toInt) := mt Int32.lt_iff_toInt_lt.mpr c1
      have d2 : ¬ (nn.toInt < (4 : Int32).toInt) := mt Int32.lt_iff_toInt_lt.mpr c2
      have d3 : ¬ (nn.toInt < (5 : Int32).toInt) := mt Int32.lt_iff_toInt_lt.mpr c3
      omega
     obtain ⟨T125, h125, L125, tm125, fr125, tl125, la125, LL125, xs125, fs125, X125, e125, N125, hR125, ba125, bb125, bc125, bd125, be125, bf125, st125⟩ := o_bookX_m1 hw n0 pp rc ru wa tm100 fr100 tl100 la100 LL100 (((((0 : Int64) + (1 : Int64)) + (1 : Int64)) + (1 : Int64)) + (1 : Int64)) (0 : Int64) xs100 fs100 (o_put (o_put (o_put (o_put (fun _ => 0) (0 + 1) x0 x1 (0 : Int64)) (1 + 1) y0 y1 (0 : Int64)) (2 + 1) (0 : Int64) (1 : Int64) (0 : Int64)) (3 + 1) (-9223372036854775808 : Int64) (-9223372036854775807 : Int64) (0 : Int64)) (9223372036854775806 : Int64) (9223372036854775807 : Int64) 4 12 16 11 16 X100 hx hZ e100 hown hP124 ba100 bc100 bd100 q126 (by decide) (by decide) (by decide) (by unfold o_D; omega) bf100 (fun q => absurd q (by decide)) (g := (o_f36 m 203 x y z frmL toL kq x0 x1 y0 y1 nn sn pp [(.int (1 : Int32)), (.long (9223372036854775807 : Int64)), (.long (9223372036854775806 : Int64)), (.ref pp)])) rfl (by rw [hml]; rfl) rfl rfl (hb hby at_203)
     have N_125 := Fr.app N_100 N125
     obtain ⟨Ep127, Er127, Ew127, F127_cpus, F127_times, F127_free, F127_head, F127_tail, F127_lastAt, F127_runs, F127_firstKnown, F127_watcher, F127_watchedAs, F127_changes, F127_merged, F127_gaveBack, F127_recent, Fn127, At127, Af127, Ar127, nt127, wl127, gp127, gt127, gf127, gr127, gu127⟩ := hR125
     have ne128 : o_ne pp ru := Ep127.ne Er127 (by decide)
     have ne129 : o_ne pp tm125 := At127.neExa Ep127 (o_m hw 8 rfl)
     have ne130 : o_ne ru tm125 := At127.neExa Er127 (o_m hw 17 rfl)
     have ne131 : o_ne pp fr125 := Af127.neExa Ep127 (o_m hw 8 rfl)
     have ne132 : o_ne ru fr125 := Af127.neExa Er127 (o_m hw 17 rfl)
     have ne133 : o_ne pp rc := Ar127.neExa Ep127 (o_m hw 8 rfl)
     have ne134 : o_ne ru rc := Ar127.neExa Er127 (o_m hw 17 rfl)
     have ne135 : o_ne wa pp := Nat.ne_of_lt (Nat.lt_of_lt_of_le wl127 gp127)
     have ne136 : o_ne wa tm125 := Nat.ne_of_lt (Nat.lt_of_lt_of_le wl127 gt127)
     have ne137 : o_ne wa fr125 := Nat.ne_of_lt (Nat.lt_of_lt_of_le wl127 gf127)
     have ne138 : o_ne wa rc := Nat.ne_of_lt (Nat.lt_of_lt_of_le wl127 gr127)
     have ne139 : o_ne wa ru := Nat.ne_of_lt (Nat.lt_of_lt_of_le wl127 gu127)
     have ne140 : o_ne tm125 fr125 := At127.ne Af127 (by intro q; cases q)
     have ne141 : o_ne fr125 rc := Af127.ne Ar127 (by intro q; cases q)
     refine o_q T125 (o_f36 m 206 x y z frmL toL kq x0 x1 y0 y1 nn sn pp []) st125 ?_
     refine o_q T125 (o_f36 m 208 x y z frmL toL kq x0 x1 y0 y1 nn sn pp [(.int nn)]) (fun _ k => XS.iload X125.here hx rfl (hb hby at_206) rfl k) ?_
     refine o_q T125 (o_f36 m 210 x y z frmL toL kq x0 x1 y0 y1 nn sn pp [(.int (6 : Int32)), (.int nn)]) (fun _ k => XS.bipush X125.here hx rfl (hb hby at_208) k) ?_
     by_cases c4 : nn < (6 : Int32)
     ·refine o_q T125 (o_f36 m 225 x y z frmL toL kq x0 x1 y0 y1 nn sn pp []) (fun _ k => XS.icmpYes X125.here hx rfl (pc0 := 210) (pc' := 225) rfl (hb hby at_210) rfl (tlt c4).1 (by decide) (by decide) k) ?_
      refine o_q T125 (o_f36 m 227 x y z frmL toL kq x0 x1 y0 y1 nn sn pp [(.int nn)]) (fun _ k => XS.iload X125.here hx rfl (hb hby at_225) rfl k) ?_
      refine o_q T125 (o_f36 m 229 x y z frmL toL kq x0 x1 y0 y1 nn sn pp [(.int (7 : Int32)), (.int nn)]) (fun _ k => XS.bipush X125.here hx rfl (hb hby at_227) k) ?_
      have q142 : nn.toInt < (7 : Int32).toInt := by
       have r1 := rng32 nn
       have k2 : (7 : Int32).toInt = 7 := by decide
       have k3 : (2 : Int32).toInt = 2 := by decide
       have k4 : (3 : Int32).toInt = 3 := by decide
       have k5 : (4 : Int32).toInt = 4 := by decide
       have k6 : (5 : Int32).toInt = 5 := by decide
       have k7 : (6 : Int32).toInt = 6 := by decide
       have d0 : ¬ (nn.toInt < (2 : Int32).toInt) := mt Int32.lt_iff_toInt_lt.mpr c0
       have d1 : ¬ (nn.toInt < (3 : Int32).toInt) := mt Int32.lt_iff_toInt_lt.mpr c1
       have d2 : ¬ (nn.toInt < (4 : Int32).toInt) := mt Int32.lt_iff_toInt_lt.mpr c2
       have d3 : ¬ (nn.toInt < (5 : Int32).toInt) := mt Int32.lt_iff_toInt_lt.mpr c3
       have d4 : nn.toInt < (6 : Int32).toInt := Int32.lt_iff_toInt_lt.mp c4
       omega
      refine o_q T125 (o_f36 m 244 x y z frmL toL kq x0 x1 y0 y1 nn sn pp []) (fun _ k => XS.icmpYes X125.here hx rfl (pc0 := 229) (pc' := 244) rfl (hb hby at_229) rfl (tlt (Int32.lt_iff_toInt_lt.mpr q142)).1 (by decide) (by decide) k) ?_
      refine o_q T125 (o_f36 m 246 x y z frmL toL kq x0 x1 y0 y1 nn sn pp [(.int nn)]) (fun _ k => XS.iload X125.here hx rfl (hb hby at_244) rfl k) ?_
      refine o_q T125 (o_f36 m 248 x y z frmL toL kq x0 x1 y0 y1 nn sn pp [(.int (8 : Int32)), (.int nn)]) (fun _ k => XS.bipush X125.here hx rfl (hb hby at_246) k) ?_
      have q143 : nn.toInt < (8 : Int32).toInt := by
       have r1 := rng32 nn
       have k2 : (8 : Int32).toInt = 8 := by decide
       have k3 : (2 : Int32).toInt = 2 := by decide
       have k4 : (3 : Int32).toInt = 3 := by decide
       have k5 : (4 : Int32).toInt = 4 := by decide
       have k6 : (5 : Int32).toInt = 5 := by decide
       have k7 : (6 : Int32).toInt = 6 := by decide
       have d0 : ¬ (nn.toInt < (2 : Int32).toInt) := mt Int32.lt_iff_toInt_lt.mpr c0
       have d1 : ¬ (nn.toInt < (3 : Int32).toInt) := mt Int32.lt_iff_toInt_lt.mpr c1
       have d2 : ¬ (nn.toInt < (4 : Int32).toInt) := mt Int32.lt_iff_toInt_lt.mpr c2
       have d3 : ¬ (nn.toInt < (5 : Int32).toInt) := mt Int32.lt_iff_toInt_lt.mpr c3
       have d4 : nn.toInt < (6 : Int32).toInt := Int32.lt_iff_toInt_lt.mp c4
       omega
      refine o_q T125 (o_f36 m 263 x y z frmL toL kq x0 x1 y0 y1 nn sn pp []) (fun _ k => XS.icmpYes X125.here hx rfl (pc0 := 248) (pc' := 263) rfl (hb hby at_248) rfl (tlt (Int32.lt_iff_toInt_lt.mpr q143)).1 (by decide) (by decide) k) ?_
      refine o_q T125 (o_f36 m 265 x y z frmL toL kq x0 x1 y0 y1 nn sn pp [(.int nn)]) (fun _ k => XS.iload X125.here hx rfl (hb hby at_263) rfl k) ?_
      refine o_q T125 (o_f36 m 267 x y z frmL toL kq x0 x1 y0 y1 nn sn pp [(.int (9 : Int32)), (.int nn)]) (fun _ k => XS.bipush X125.here hx rfl (hb hby at_265) k) ?_
      have q144 : nn.toInt < (9 : Int32).toInt := by
       have r1 := rng32 nn
       have k2 : (9 : Int32).toInt = 9 := by decide
       have k3 : (2 : Int32).toInt = 2 := by decide
       have k4 : (3 : Int32).toInt = 3 := by decide
       have k5 : (4 : Int32).toInt = 4 := by decide
       have k6 : (5 : Int32).toInt = 5 := by decide
       have k7 : (6 : Int32).toInt = 6 := by decide
       have d0 : ¬ (nn.toInt < (2 : Int32).toInt) := mt Int32.lt_iff_toInt_lt.mpr c0
       have d1 : ¬ (nn.toInt < (3 : Int32).toInt) := mt Int32.lt_iff_toInt_lt.mpr c1
       have d2 : ¬ (nn.toInt < (4 : Int32).toInt) := mt Int32.lt_iff_toInt_lt.mpr c2
       have d3 : ¬ (nn.toInt < (5 : Int32).toInt) := mt Int32.lt_iff_toInt_lt.mpr c3
       have d4 : nn.toInt < (6 : Int32).toInt := Int32.lt_iff_toInt_lt.mp c4
       omega
      refine o_q T125 (o_f36 m 282 x y z frmL toL kq x0 x1 y0 y1 nn sn pp []) (fun _ k => XS.icmpYes X125.here hx rfl (pc0 := 267) (pc' := 282) rfl (hb hby at_267) rfl (tlt (Int32.lt_iff_toInt_lt.mpr q144)).1 (by decide) (by decide) k) ?_
      refine o_q T125 (o_f36 m 284 x y z frmL toL kq x0 x1 y0 y1 nn sn pp [(.ref pp)]) (fun _ k => XS.aload X125.here hx rfl (hb hby at_282) rfl rfl k) ?_
      refine o_q T125 (o_f36 m 286 x y z frmL toL kq x0 x1 y0 y1 nn sn pp [(.int sn), (.ref pp)]) (fun _ k => XS.iload X125.here hx rfl (hb hby at_284) rfl k) ?_
      refine o_q T125 (o_f36 m 287 x y z frmL toL kq x0 x1 y0 y1 nn sn pp [(.long (sn).toInt64), (.ref pp)]) (fun _ k => XS.i2l X125.here hx rfl (hb hby at_286) rfl k) ?_
      refine o_q T125 (o_f36 m 289 x y z frmL toL kq x0 x1 y0 y1 nn sn pp [(.long frmL), (.long (sn).toInt64), (.ref pp)]) (fun _ k => XS.lload X125.here hx rfl (hb hby at_287) rfl k) ?_
      refine o_q T125 (o_f36 m 291 x y z frmL toL kq x0 x1 y0 y1 nn sn pp [(.long toL), (.long frmL), (.long (sn).toInt64), (.ref pp)]) (fun _ k => XS.lload X125.here hx rfl (hb hby at_289) rfl k) ?_
      have hP145 : o_Pr Z n0 pp rc ru wa tm125 fr125 tl125 la125 LL125 ((((((0 : Int64) + (1 : Int64)) + (1 : Int64)) + (1 : Int64)) + (1 : Int64)) + (1 : Int64)) (0 : Int64) xs125 fs125 (o_put (o_put (o_put (o_put (o_put (fun _ => 0) (0 + 1) x0 x1 (0 : Int64)) (1 + 1) y0 y1 (0 : Int64)) (2 + 1) (0 : Int64) (1 : Int64) (0 : Int64)) (3 + 1) (-9223372036854775808 : Int64) (-9223372036854775807 : Int64) (0 : Int64)) (4 + 1) (9223372036854775806 : Int64) (9223372036854775807 : Int64) (0 : Int64)) h125 := ⟨Ep127, Er127, Ew127, F127_cpus, F127_times, F127_free, F127_head, F127_tail, F127_lastAt, F127_runs, F127_firstKnown, F127_watcher, F127_watchedAs, F127_changes, F127_merged, F127_gaveBack, F127_recent, Fn127, At127, Af127, Ar127, nt127, wl127, gp127, gt127, gf127, gr127, gu127⟩
      have nj146 : nn.toInt = 5 := by
       have r1 := rng32 nn
       have k2 : (2 : Int32).toInt = 2 := by decide
       have k3 : (3 : Int32).toInt = 3 := by decide
       have k4 : (4 : Int32).toInt = 4 := by decide
       have k5 : (5 : Int32).toInt = 5 := by decide
       have k6 : (6 : Int32).toInt = 6 := by decide
       have d0 : ¬ (nn.toInt < (2 : Int32).toInt) := mt Int32.lt_iff_toInt_lt.mpr c0
       have d1 : ¬ (nn.toInt < (3 : Int32).toInt) := mt Int32.lt_iff_toInt_lt.mpr c1
       have d2 : ¬ (nn.toInt < (4 : Int32).toInt) := mt Int32.lt_iff_toInt_lt.mpr c2
       have d3 : ¬ (nn.toInt < (5 : Int32).toInt) := mt Int32.lt_iff_toInt_lt.mpr c3
       have d4 : nn.toInt < (6 : Int32).toInt := Int32.lt_iff_toInt_lt.mp c4
       omega
      have nl146 : nn = (5 : Int32) := Int32.toInt_inj.mp (nj146.trans (by decide))
      have hs146 : ((sn).toInt64).toInt = ((sn.toNatClampNeg : Nat) : Int) := (c_i2l sn).trans (o_nat sn rs0.1).symm
      have sb146 : sn.toNatClampNeg ≤ 5 := by have := o_nat sn rs0.1; omega
      have cl146 := o_cL_le LL125
      have Xo146 : Stand p l e room_1 s m #[(.long x), (.long y), (.long z), (.long frmL), (.long toL), (.int kq)] below meth c T125 _ 12 258 := X125.more (by omega) (by omega)
      obtain ⟨v147, T147, L147, hQ147, X147, st147⟩ := o_callV Xo146 hx hZ e125 hown (o_m hw 126 rfl) (o_m hw 127 rfl) (o_m hw 129 rfl) (o_m hw 128 rfl) (by decide) (b := pp) Ep127 (o_m hw 130 rfl) (o_m hw 9 rfl) (o_over l Z a0 hw n0 pp rc ru wa tm125 fr125 tl125 la125 LL125 ((((((0 : Int64) + (1 : Int64)) + (1 : Int64)) + (1 : Int64)) + (1 : Int64)) + (1 : Int64)) (0 : Int64) xs125 fs125 (o_put (o_put (o_put (o_put (o_put (fun _ => 0) (0 + 1) x0 x1 (0 : Int64)) (1 + 1) y0 y1 (0 : Int64)) (2 + 1) (0 : Int64) (1 : Int64) (0 : Int64)) (3 + 1) (-9223372036854775808 : Int64) (-9223372036854775807 : Int64) (0 : Int64)) (4 + 1) (9223372036854775806 : Int64) (9223372036854775807 : Int64) (0 : Int64)) ((sn).toInt64) frmL toL 5 sn.toNatClampNeg h125 hP145 (by decide) hs146 sb146 (by decide)) (g := (o_f36 m 291 x y z frmL toL kq x0 x1 y0 y1 nn sn pp [(.long toL), (.long frmL), (.long (sn).toInt64), (.ref pp)])) rfl (by rw [hml]; rfl) rfl (argsL := [(.long (sn).toInt64), (.long frmL), (.long toL)]) (rest := []) rfl (lenOf o_pd10 rfl) rfl (hb hby at_291) (o_b rfl) (o_b rfl) (o_b rfl) (o_b rfl)
      obtain ⟨rfl, rfl, e147⟩ := hQ147
      rw [List.append_nil] at X147
      refine o_q T147 (o_f36 m 294 x y z frmL toL kq x0 x1 y0 y1 nn sn pp [(.int (o_co (o_put (o_put (o_put (o_put (o_put (fun _ => 0) (0 + 1) x0 x1 (0 : Int64)) (1 + 1) y0 y1 (0 : Int64)) (2 + 1) (0 : Int64) (1 : Int64) (0 : Int64)) (3 + 1) (-9223372036854775808 : Int64) (-9223372036854775807 : Int64) (0 : Int64)) (4 + 1) (9223372036854775806 : Int64) (9223372036854775807 : Int64) (0 : Int64)) frmL toL 5 sn.toNatClampNeg))]) st147 ?_
      refine o_q T147 (o_f31 m 296 x y z frmL toL kq x0 x1 y0 y1 nn sn pp (o_co (o_put (o_put (o_put (o_put (o_put (fun _ => 0) (0 + 1) x0 x1 (0 : Int64)) (1 + 1) y0 y1 (0 : Int64)) (2 + 1) (0 : Int64) (1 : Int64) (0 : Int64)) (3 + 1) (-9223372036854775808 : Int64) (-9223372036854775807 : Int64) (0 : Int64)) (4 + 1) (9223372036854775806 : Int64) (9223372036854775807 : Int64) (0 : Int64)) frmL toL 5 sn.toNatClampNeg) []) (fun _ k => XS.istore X147.here hx rfl (hb hby at_294) rfl (l' := (o_t31 x y z frmL toL kq x0 x1 y0 y1 nn sn pp (o_co (o_put (o_put (o_put (o_put (o_put (fun _ => 0) (0 + 1) x0 x1 (0 : Int64)) (1 + 1) y0 y1 (0 : Int64)) (2 + 1) (0 : Int64) (1 : Int64) (0 : Int64)) (3 + 1) (-9223372036854775808 : Int64) (-9223372036854775807 : Int64) (0 : Int64)) (4 + 1) (9223372036854775806 : Int64) (9223372036854775807 : Int64) (0 : Int64)) frmL toL 5 sn.toNatClampNeg))) rfl k) ?_
      have hg : (o_co (o_put (o_put (o_put (o_put (o_put (fun _ => 0) (0 + 1) x0 x1 (0 : Int64)) (1 + 1) y0 y1 (0 : Int64)) (2 + 1) (0 : Int64) (1 : Int64) (0 : Int64)) (3 + 1) (-9223372036854775808 : Int64) (-9223372036854775807 : Int64) (0 : Int64)) (4 + 1) (9223372036854775806 : Int64) (9223372036854775807 : Int64) (0 : Int64)) frmL toL 5 sn.toNatClampNeg) = o_w0 nn sn x0 x1 y0 y1 frmL toL := by rw [nl146]; exact o_fin5 sn ⟨rs0.1, by omega⟩ x0 x1 y0 y1 frmL toL
      exact o_J0 Z a0 hw n0 x y z frmL toL kq x0 x1 y0 y1 nn sn pp (o_co (o_put (o_put (o_put (o_put (o_put (fun _ => 0) (0 + 1) x0 x1 (0 : Int64)) (1 + 1) y0 y1 (0 : Int64)) (2 + 1) (0 : Int64) (1 : Int64) (0 : Int64)) (3 + 1) (-9223372036854775808 : Int64) (-9223372036854775807 : Int64) (0 : Int64)) (4 + 1) (9223372036854775806 : Int64) (9223372036854775807 : Int64) (0 : Int64)) frmL toL 5 sn.toNatClampNeg) hx hby hml hZ hown hret hlk X147 e147 N_125 hg
     ·refine o_q T125 (o_f36 m 213 x y z frmL toL kq x0 x1 y0 y1 nn sn pp []) (fun _ k => XS.icmpNo X125.here hx rfl (hb hby at_210) rfl (flt c4).1 k) ?_
      refine o_q T125 (o_f36 m 215 x y z frmL toL kq x0 x1 y0 y1 nn sn pp [(.ref pp)]) (fun _ k => XS.aload X125.here hx rfl (hb hby at_213) rfl rfl k) ?_
      refine o_q T125 (o_f36 m 218 x y z frmL toL kq x0 x1 y0 y1 nn sn pp [(.long (-10 : Int64)), (.ref pp)]) (fun _ k => X125.ldc2Long hx hown (mvT hZ (o_m hw 157 rfl)) (g := (o_f36 m 215 x y z frmL toL kq x0 x1 y0 y1 nn sn pp [(.ref pp)])) rfl (hb hby at_215) _ k) ?_
      refine o_q T125 (o_f36 m 221 x y z frmL toL kq x0 x1 y0 y1 nn sn pp [(.long (10 : Int64)), (.long (-10 : Int64)), (.ref pp)]) (fun _ k => X125.ldc2Long hx hown (mvT hZ (o_m hw 158 rfl)) (g := (o_f36 m 218 x y z frmL toL kq x0 x1 y0 y1 nn sn pp [(.long (-10 : Int64)), (.ref pp)])) rfl (hb hby at_218) _ k) ?_
      refine o_q T125 (o_f36 m 222 x y z frmL toL kq x0 x1 y0 y1 nn sn pp [(.int (1 : Int32)), (.long (10 : Int64)), (.long (-10 : Int64)), (.ref pp)]) (fun _ k => XS.iconst X125.here hx rfl (hb hby at_221) k) ?_
      have hP148 : o_Pr Z n0 pp rc ru wa tm125 fr125 tl125 la125 LL125 ((((((0 : Int64) + (1 : Int64)) + (1 : Int64)) + (1 : Int64)) + (1 : Int64)) + (1 : Int64)) (0 : Int64) xs125 fs125 (o_put (o_put (o_put (o_put (o_put (fun _ => 0) (0 + 1) x0 x1 (0 : Int64)) (1 + 1) y0 y1 (0 : Int64)) (2 + 1) (0 : Int64) (1 : Int64) (0 : Int64)) (3 + 1) (-9223372036854775808 : Int64) (-9223372036854775807 : Int64) (0 : Int64)) (4 + 1) (9223372036854775806 : Int64) (9223372036854775807 : Int64) (0 : Int64)) h125 := ⟨Ep127, Er127, Ew127, F127_cpus, F127_times, F127_free, F127_head, F127_tail, F127_lastAt, F127_runs, F127_firstKnown, F127_watcher, F127_watchedAs, F127_changes, F127_merged, F127_gaveBack, F127_recent, Fn127, At127, Af127, Ar127, nt127, wl127, gp127, gt127, gf127, gr127, gu127⟩
      have q150 : tl125.toInt + 2 ≤ 32 := by
       have r1 := rng32 tl125
       have k2 : (1 : Int32).toInt = 1 := by decide
       have r3 := rng32 nn
       have k4 : (2 : Int32).toInt = 2 := by decide
       have k5 : (3 : Int32).toInt = 3 := by decide
       have k6 : (4 : Int32).toInt = 4 := by decide
       have k7 : (5 : Int32).toInt = 5 := by decide
       have k8 : (6 : Int32).toInt = 6 := by decide
       have d0 : ¬ (nn.toInt < (2 : Int32).toInt) := mt Int32.lt_iff_toInt_lt.mpr c0
       have d1 : ¬ (nn.toInt < (3 : Int32).toInt) := mt Int32.lt_iff_toInt_lt.mpr c1
       have d2 : ¬ (nn.toInt < (4 : Int32).toInt) := mt Int32.lt_iff_toInt_lt.mpr c2
       have d3 : ¬ (nn.toInt < (5 : Int32).toInt) := mt Int32.lt_iff_toInt_lt.mpr c3
       have d4 : ¬ (nn.toInt < (6 : Int32).toInt) := mt Int32.lt_iff_toInt_lt.mpr c4
       omega
      obtain ⟨T149, h149, L149, tm149, fr149, tl149, la149, LL149, xs149, fs149, X149, e149, N149, hR149, ba149, bb149, bc149, bd149, be149, bf149, st149⟩ := o_bookX_m1 hw n0 pp rc ru wa tm125 fr125 tl125 la125 LL125 ((((((0 : Int64) + (1 : Int64)) + (1 : Int64)) + (1 : Int64)) + (1 : Int64)) + (1 : Int64)) (0 : Int64) xs125 fs125 (o_put (o_put (o_put (o_put (o_put (fun _ => 0) (0 + 1) x0 x1 (0 : Int64)) (1 + 1) y0 y1 (0 : Int64)) (2 + 1) (0 : Int64) (1 : Int64) (0 : Int64)) (3 + 1) (-9223372036854775808 : Int64) (-9223372036854775807 : Int64) (0 : Int64)) (4 + 1) (9223372036854775806 : Int64) (9223372036854775807 : Int64) (0 : Int64)) (-10 : Int64) (10 : Int64) 5 11 16 10 16 X125 hx hZ e125 hown hP148 ba125 bc125 bd125 q150 (by decide) (by decide) (by decide) (by unfold o_D; omega) bf125 (fun q => absurd q (by decide)) (g := (o_f36 m 222 x y z frmL toL kq x0 x1 y0 y1 nn sn pp [(.int (1 : Int32)), (.long (10 : Int64)), (.long (-10 : Int64)), (.ref pp)])) rfl (by rw [hml]; rfl) rfl rfl (hb hby at_222)
      have N_149 := Fr.app N_125 N149
      obtain ⟨Ep151, Er151, Ew151, F151_cpus, F151_times, F151_free, F151_head, F151_tail, F151_lastAt, F151_runs, F151_firstKnown, F151_watcher, F151_watchedAs, F151_changes, F151_merged, F151_gaveBack, F151_recent, Fn151, At151, Af151, Ar151, nt151, wl151, gp151, gt151, gf151, gr151, gu151⟩ := hR149
      have ne152 : o_ne pp ru := Ep151.ne Er151 (by decide)
      have ne153 : o_ne pp tm149 := At151.neExa Ep151 (o_m hw 8 rfl)
      have ne154 : o_ne ru tm149 := At151.neExa Er151 (o_m hw 17 rfl)
      have ne155 : o_ne pp fr149 := Af151.neExa Ep151 (o_m hw 8 rfl)
      have ne156 : o_ne ru fr149 := Af151.neExa Er151 (o_m hw 17 rfl)
      have ne157 : o_ne pp rc := Ar151.neExa Ep151 (o_m hw 8 rfl)
      have ne158 : o_ne ru rc := Ar151.neExa Er151 (o_m hw 17 rfl)
      have ne159 : o_ne wa pp := Nat.ne_of_lt (Nat.lt_of_lt_of_le wl151 gp151)
      have ne160 : o_ne wa tm149 := Nat.ne_of_lt (Nat.lt_of_lt_of_le wl151 gt151)
      have ne161 : o_ne wa fr149 := Nat.ne_of_lt (Nat.lt_of_lt_of_le wl151 gf151)
      have ne162 : o_ne wa rc := Nat.ne_of_lt (Nat.lt_of_lt_of_le wl151 gr151)
      have ne163 : o_ne wa ru := Nat.ne_of_lt (Nat.lt_of_lt_of_le wl151 gu151)
      have ne164 : o_ne tm149 fr149 := At151.ne Af151 (by intro q; cases q)
      have ne165 : o_ne fr149 rc := Af151.ne Ar151 (by intro q; cases q)
      refine o_q T149 (o_f36 m 225 x y z frmL toL kq x0 x1 y0 y1 nn sn pp []) st149 ?_
      refine o_q T149 (o_f36 m 227 x y z frmL toL kq x0 x1 y0 y1 nn sn pp [(.int nn)]) (fun _ k => XS.iload X149.here hx rfl (hb hby at_225) rfl k) ?_
      refine o_q T149 (o_f36 m 229 x y z frmL toL kq x0 x1 y0 y1 nn sn pp [(.int (7 : Int32)), (.int nn)]) (fun _ k => XS.bipush X149.here hx rfl (hb hby at_227) k) ?_
      by_cases c5 : nn < (7 : Int32)
      ·refine o_q T149 (o_f36 m 244 x y z frmL toL kq x0 x1 y0 y1 nn sn pp []) (fun _ k => XS.icmpYes X149.here hx rfl (pc0 := 229) (pc' := 244) rfl (hb hby at_229) rfl (tlt c5).1 (by decide) (by decide) k) ?_
       refine o_q T149 (o_f36 m 246 x y z frmL toL kq x0 x1 y0 y1 nn sn pp [(.int nn)]) (fun _ k => XS.iload X149.here hx rfl (hb hby at_244) rfl k) ?_
       refine o_q T149 (o_f36 m 248 x y z frmL toL kq x0 x1 y0 y1 nn sn pp [(.int (8 : Int32)), (.int nn)]) (fun _ k => XS.bipush X149.here hx rfl (hb hby at_246) k) ?_
       have q166 : nn.toInt < (8 : Int32).toInt := by
        have r1 := rng32 nn
        have k2 : (8 : Int32).toInt = 8 := by decide
        have k3 : (2 : Int32).toInt = 2 := by decide
        have k4 : (3 : Int32).toInt = 3 := by decide
        have k5 : (4 : Int32).toInt = 4 := by decide
        have k6 : (5 : Int32).toInt = 5 := by decide
        have k7 : (6 : Int32).toInt = 6 := by decide
        have k8 : (7 : Int32).toInt = 7 := by decide
        have d0 : ¬ (nn.toInt < (2 : Int32).toInt) := mt Int32.lt_iff_toInt_lt.mpr c0
        have d1 : ¬ (nn.toInt < (3 : Int32).toInt) := mt Int32.lt_iff_toInt_lt.mpr c1
        have d2 : ¬ (nn.toInt < (4 : Int32).toInt) := mt Int32.lt_iff_toInt_lt.mpr c2
        have d3 : ¬ (nn.toInt < (5 : Int32).toInt) := mt Int32.lt_iff_toInt_lt.mpr c3
        have d4 : ¬ (nn.toInt < (6 : Int32).toInt) := mt Int32.lt_iff_toInt_lt.mpr c4
        have d5 : nn.toInt < (7 : Int32).toInt := Int32.lt_iff_toInt_lt.mp c5
        omega
       refine o_q T149 (o_f36 m 263 x y z frmL toL kq x0 x1 y0 y1 nn sn pp []) (fun _ k => XS.icmpYes X149.here hx rfl (pc0 := 248) (pc' := 263) rfl (hb hby at_248) rfl (tlt (Int32.lt_iff_toInt_lt.mpr q166)).1 (by decide) (by decide) k) ?_
       refine o_q T149 (o_f36 m 265 x y z frmL toL kq x0 x1 y0 y1 nn sn pp [(.int nn)]) (fun _ k => XS.iload X149.here hx rfl (hb hby at_263) rfl k) ?_
       refine o_q T149 (o_f36 m 267 x y z frmL toL kq x0 x1 y0 y1 nn sn pp [(.int (9 : Int32)), (.int nn)]) (fun _ k => XS.bipush X149.here hx rfl (hb hby at_265) k) ?_
       have q167 : nn.toInt < (9 : Int32).toInt := by
        have r1 := rng32 nn
        have k2 : (9 : Int32).toInt = 9 := by decide
        have k3 : (2 : Int32).toInt = 2 := by decide
        have k4 : (3 : Int32).toInt = 3 := by decide
        have k5 : (4 : Int32).toInt = 4 := by decide
        have k6 : (5 : Int32).toInt = 5 := by decide
        have k7 : (6 : Int32).toInt = 6 := by decide
        have k8 : (7 : Int32).toInt = 7 := by decide
        have d0 : ¬ (nn.toInt < (2 : Int32).toInt) := mt Int32.lt_iff_toInt_lt.mpr c0
        have d1 : ¬ (nn.toInt < (3 : Int32).toInt) := mt Int32.lt_iff_toInt_lt.mpr c1
        have d2 : ¬ (nn.toInt < (4 : Int32).toInt) := mt Int32.lt_iff_toInt_lt.mpr c2
        have d3 : ¬ (nn.toInt < (5 : Int32).toInt) := mt Int32.lt_iff_toInt_lt.mpr c3
        have d4 : ¬ (nn.toInt < (6 : Int32).toInt) := mt Int32.lt_iff_toInt_lt.mpr c4
        have d5 : nn.toInt < (7 : Int32).toInt := Int32.lt_iff_toInt_lt.mp c5
        omega
       refine o_q T149 (o_f36 m 282 x y z frmL toL kq x0 x1 y0 y1 nn sn pp []) (fun _ k => XS.icmpYes X149.here hx rfl (pc0 := 267) (pc' := 282) rfl (hb hby at_267) rfl (tlt (Int32.lt_iff_toInt_lt.mpr q167)).1 (by decide) (by decide) k) ?_
       refine o_q T149 (o_f36 m 284 x y z frmL toL kq x0 x1 y0 y1 nn sn pp [(.ref pp)]) (fun _ k => XS.aload X149.here hx rfl (hb hby at_282) rfl rfl k) ?_
       refine o_q T149 (o_f36 m 286 x y z frmL toL kq x0 x1 y0 y1 nn sn pp [(.int sn), (.ref pp)]) (fun _ k => XS.iload X149.here hx rfl (hb hby at_284) rfl k) ?_
       refine o_q T149 (o_f36 m 287 x y z frmL toL kq x0 x1 y0 y1 nn sn pp [(.long (sn).toInt64), (.ref pp)]) (fun _ k => XS.i2l X149.here hx rfl (hb hby at_286) rfl k) ?_
       refine o_q T149 (o_f36 m 289 x y z frmL toL kq x0 x1 y0 y1 nn sn pp [(.long frmL), (.long (sn).toInt64), (.ref pp)]) (fun _ k => XS.lload X149.here hx rfl (hb hby at_287) rfl k) ?_
       refine o_q T149 (o_f36 m 291 x y z frmL toL kq x0 x1 y0 y1 nn sn pp [(.long toL), (.long frmL), (.long (sn).toInt64), (.ref pp)]) (fun _ k => XS.lload X149.here hx rfl (hb hby at_289) rfl k) ?_
       have hP168 : o_Pr Z n0 pp rc ru wa tm149 fr149 tl149 la149 LL149 (((((((0 : Int64) + (1 : Int64)) + (1 : Int64)) + (1 : Int64)) + (1 : Int64)) + (1 : Int64)) + (1 : Int64)) (0 : Int64) xs149 fs149 (o_put (o_put (o_put (o_put (o_put (o_put (fun _ => 0) (0 + 1) x0 x1 (0 : Int64)) (1 + 1) y0 y1 (0 : Int64)) (2 + 1) (0 : Int64) (1 : Int64) (0 : Int64)) (3 + 1) (-9223372036854775808 : Int64) (-9223372036854775807 : Int64) (0 : Int64)) (4 + 1) (9223372036854775806 : Int64) (9223372036854775807 : Int64) (0 : Int64)) (5 + 1) (-10 : Int64) (10 : Int64) (0 : Int64)) h149 := ⟨Ep151, Er151, Ew151, F151_cpus, F151_times, F151_free, F151_head, F151_tail, F151_lastAt, F151_runs, F151_firstKnown, F151_watcher, F151_watchedAs, F151_changes, F151_merged, F151_gaveBack, F151_recent, Fn151, At151, Af151, Ar151, nt151, wl151, gp151, gt151, gf151, gr151, gu151⟩
       have nj169 : nn.toInt = 6 := by
        have r1 := rng32 nn
        have k2 : (2 : Int32).toInt = 2 := by decide
        have k3 : (3 : Int32).toInt = 3 := by decide
        have k4 : (4 : Int32).toInt = 4 := by decide
        have k5 : (5 : Int32).toInt = 5 := by decide
        have k6 : (6 : Int32).toInt = 6 := by decide
        have k7 : (7 : Int32).toInt = 7 := by decide
        have d0 : ¬ (nn.toInt < (2 : Int32).toInt) := mt Int32.lt_iff_toInt_lt.mpr c0
        have d1 : ¬ (nn.toInt < (3 : Int32).toInt) := mt Int32.lt_iff_toInt_lt.mpr c1
        have d2 : ¬ (nn.toInt < (4 : Int32).toInt) := mt Int32.lt_iff_toInt_lt.mpr c2
        have d3 : ¬ (nn.toInt < (5 : Int32).toInt) := mt Int32.lt_iff_toInt_lt.mpr c3
        have d4 : ¬ (nn.toInt < (6 : Int32).toInt) := mt Int32.lt_iff_toInt_lt.mpr c4
        have d5 : nn.toInt < (7 : Int32).toInt := Int32.lt_iff_toInt_lt.mp c5
        omega
       have nl169 : nn = (6 : Int32) := Int32.toInt_inj.mp (nj169.trans (by decide))
       have hs169 : ((sn).toInt64).toInt = ((sn.toNatClampNeg : Nat) : Int) := (c_i2l sn).trans (o_nat sn rs0.1).symm
       have sb169 : sn.toNatClampNeg ≤ 6 := by have := o_nat sn rs0.1; omega
       have cl169 := o_cL_le LL149
       have Xo169 : Stand p l e room_1 s m #[(.long x), (.long y), (.long z), (.long frmL), (.long toL), (.int kq)] below meth c T149 _ 12 258 := X149.more (by omega) (by omega)
       obtain ⟨v170, T170, L170, hQ170, X170, st170⟩ := o_callV Xo169 hx hZ e149 hown (o_m hw 126 rfl) (o_m hw 127 rfl) (o_m hw 129 rfl) (o_m hw 128 rfl) (by decide) (b := pp) Ep151 (o_m hw 130 rfl) (o_m hw 9 rfl) (o_over l Z a0 hw n0 pp rc ru wa tm149 fr149 tl149 la149 LL149 (((((((0 : Int64) + (1 : Int64)) + (1 : Int64)) + (1 : Int64)) + (1 : Int64)) + (1 : Int64)) + (1 : Int64)) (0 : Int64) xs149 fs149 (o_put (o_put (o_put (o_put (o_put (o_put (fun _ => 0) (0 + 1) x0 x1 (0 : Int64)) (1 + 1) y0 y1 (0 : Int64)) (2 + 1) (0 : Int64) (1 : Int64) (0 : Int64)) (3 + 1) (-9223372036854775808 : Int64) (-9223372036854775807 : Int64) (0 : Int64)) (4 + 1) (9223372036854775806 : Int64) (9223372036854775807 : Int64) (0 : Int64)) (5 + 1) (-10 : Int64) (10 : Int64) (0 : Int64)) ((sn).toInt64) frmL toL 6 sn.toNatClampNeg h149 hP168 (by decide) hs169 sb169 (by decide)) (g := (o_f36 m 291 x y z frmL toL kq x0 x1 y0 y1 nn sn pp [(.long toL), (.long frmL), (.long (sn).toInt64), (.ref pp)])) rfl (by rw [hml]; rfl) rfl (argsL := [(.long (sn).toInt64), (.long frmL), (.long toL)]) (rest := []) rfl (lenOf o_pd10 rfl) rfl (hb hby at_291) (o_b rfl) (o_b rfl) (o_b rfl) (o_b rfl)
       obtain ⟨rfl, rfl, e170⟩ := hQ170
       rw [List.append_nil] at X170
       refine o_q T170 (o_f36 m 294 x y z frmL toL kq x0 x1 y0 y1 nn sn pp [(.int (o_co (o_put (o_put (o_put (o_put (o_put (o_put (fun _ => 0) (0 + 1) x0 x1 (0 : Int64)) (1 + 1) y0 y1 (0 : Int64)) (2 + 1) (0 : Int64) (1 : Int64) (0 : Int64)) (3 + 1) (-9223372036854775808 : Int64) (-9223372036854775807 : Int64) (0 : Int64)) (4 + 1) (9223372036854775806 : Int64) (9223372036854775807 : Int64) (0 : Int64)) (5 + 1) (-10 : Int64) (10 : Int64) (0 : Int64)) frmL toL 6 sn.toNatClampNeg))]) st170 ?_
       refine o_q T170 (o_f31 m 296 x y z frmL toL kq x0 x1 y0 y1 nn sn pp (o_co (o_put (o_put (o_put (o_put (o_put (o_put (fun _ => 0) (0 + 1) x0 x1 (0 : Int64)) (1 + 1) y0 y1 (0 : Int64)) (2 + 1) (0 : Int64) (1 : Int64) (0 : Int64)) (3 + 1) (-9223372036854775808 : Int64) (-9223372036854775807 : Int64) (0 : Int64)) (4 + 1) (9223372036854775806 : Int64) (9223372036854775807 : Int64) (0 : Int64)) (5 + 1) (-10 : Int64) (10 : Int64) (0 : Int64)) frmL toL 6 sn.toNatClampNeg) []) (fun _ k => XS.istore X170.here hx rfl (hb hby at_294) rfl (l' := (o_t31 x y z frmL toL kq x0 x1 y0 y1 nn sn pp (o_co (o_put (o_put (o_put (o_put (o_put (o_put (fun _ => 0) (0 + 1) x0 x1 (0 : Int64)) (1 + 1) y0 y1 (0 : Int64)) (2 + 1) (0 : Int64) (1 : Int64) (0 : Int64)) (3 + 1) (-9223372036854775808 : Int64) (-9223372036854775807 : Int64) (0 : Int64)) (4 + 1) (9223372036854775806 : Int64) (9223372036854775807 : Int64) (0 : Int64)) (5 + 1) (-10 : Int64) (10 : Int64) (0 : Int64)) frmL toL 6 sn.toNatClampNeg))) rfl k) ?_
       have hg : (o_co (o_put (o_put (o_put (o_put (o_put (o_put (fun _ => 0) (0 + 1) x0 x1 (0 : Int64)) (1 + 1) y0 y1 (0 : Int64)) (2 + 1) (0 : Int64) (1 : Int64) (0 : Int64)) (3 + 1) (-9223372036854775808 : Int64) (-9223372036854775807 : Int64) (0 : Int64)) (4 + 1) (9223372036854775806 : Int64) (9223372036854775807 : Int64) (0 : Int64)) (5 + 1) (-10 : Int64) (10 : Int64) (0 : Int64)) frmL toL 6 sn.toNatClampNeg) = o_w0 nn sn x0 x1 y0 y1 frmL toL := by rw [nl169]; exact o_fin6 sn ⟨rs0.1, by omega⟩ x0 x1 y0 y1 frmL toL
       exact o_J0 Z a0 hw n0 x y z frmL toL kq x0 x1 y0 y1 nn sn pp (o_co (o_put (o_put (o_put (o_put (o_put (o_put (fun _ => 0) (0 + 1) x0 x1 (0 : Int64)) (1 + 1) y0 y1 (0 : Int64)) (2 + 1) (0 : Int64) (1 : Int64) (0 : Int64)) (3 + 1) (-9223372036854775808 : Int64) (-9223372036854775807 : Int64) (0 : Int64)) (4 + 1) (9223372036854775806 : Int64) (9223372036854775807 : Int64) (0 : Int64)) (5 + 1) (-10 : Int64) (10 : Int64) (0 : Int64)) frmL toL 6 sn.toNatClampNeg) hx hby hml hZ hown hret hlk X170 e170 N_149 hg
      ·refine o_q T149 (o_f36 m 232 x y z frmL toL kq x0 x1 y0 y1 nn sn pp []) (fun _ k => XS.icmpNo X149.here hx rfl (hb hby at_229) rfl (flt c5).1 k) ?_
       refine o_q T149 (o_f36 m 234 x y z frmL toL kq x0 x1 y0 y1 nn sn pp [(.ref pp)]) (fun _ k => XS.aload X149.here hx rfl (hb hby at_232) rfl rfl k) ?_
       refine o_q T149 (o_f36 m 237 x y z frmL toL kq x0 x1 y0 y1 nn sn pp [(.long (100 : Int64)), (.ref pp)]) (fun _ k => X149.ldc2Long hx hown (mvT hZ (o_m hw 159 rfl)) (g := (o_f36 m 234 x y z frmL toL kq x0 x1 y0 y1 nn sn pp [(.ref pp)])) rfl (hb hby at_234) _ k) ?_
       refine o_q T149 (o_f36 m 240 x y z frmL toL kq x0 x1 y0 y1 nn sn pp [(.long (200 : Int64)), (.long (100 : Int64)), (.ref pp)]) (fun _ k => X149.ldc2Long hx hown (mvT hZ (o_m hw 160 rfl)) (g := (o_f36 m 237 x y z frmL toL kq x0 x1 y0 y1 nn sn pp [(.long (100 : Int64)), (.ref pp)])) rfl (hb hby at_237) _ k) ?_
       refine o_q T149 (o_f36 m 241 x y z frmL toL kq x0 x1 y0 y1 nn sn pp [(.int (1 : Int32)), (.long (200 : Int64)), (.long (100 : Int64)), (.ref pp)]) (fun _ k => XS.iconst X149.here hx rfl (hb hby at_240) k) ?_
       have hP171 : o_Pr Z n0 pp rc ru wa tm149 fr149 tl149 la149 LL149 (((((((0 : Int64) + (1 : Int64)) + (1 : Int64)) + (1 : Int64)) + (1 : Int64)) + (1 : Int64)) + (1 : Int64)) (0 : Int64) xs149 fs149 (o_put (o_put (o_put (o_put (o_put (o_put (fun _ => 0) (0 + 1) x0 x1 (0 : Int64)) (1 + 1) y0 y1 (0 : Int64)) (2 + 1) (0 : Int64) (1 : Int64) (0 : Int64)) (3 + 1) (-9223372036854775808 : Int64) (-9223372036854775807 : Int64) (0 : Int64)) (4 + 1) (9223372036854775806 : Int64) (9223372036854775807 : Int64) (0 : Int64)) (5 + 1) (-10 : Int64) (10 : Int64) (0 : Int64)) h149 := ⟨Ep151, Er151, Ew151, F151_cpus, F151_times, F151_free, F151_head, F151_tail, F151_lastAt, F151_runs, F151_firstKnown, F151_watcher, F151_watchedAs, F151_changes, F151_merged, F151_gaveBack, F151_recent, Fn151, At151, Af151, Ar151, nt151, wl151, gp151, gt151, gf151, gr151, gu151⟩
       have q173 : tl149.toInt + 2 ≤ 32 := by
        have r1 := rng32 tl149
        have k2 : (1 : Int32).toInt = 1 := by decide
        have r3 := rng32 nn
        have k4 : (2 : Int32).toInt = 2 := by decide
        have k5 : (3 : Int32).toInt = 3 := by decide
        have k6 : (4 : Int32).toInt = 4 := by decide
        have k7 : (5 : Int32).toInt = 5 := by decide
        have k8 : (6 : Int32).toInt = 6 := by decide
        have k9 : (7 : Int32).toInt = 7 := by decide
        have d0 : ¬ (nn.toInt < (2 : Int32).toInt) := mt Int32.lt_iff_toInt_lt.mpr c0
        have d1 : ¬ (nn.toInt < (3 : Int32).toInt) := mt Int32.lt_iff_toInt_lt.mpr c1
        have d2 : ¬ (nn.toInt < (4 : Int32).toInt) := mt Int32.lt_iff_toInt_lt.mpr c2
        have d3 : ¬ (nn.toInt < (5 : Int32).toInt) := mt Int32.lt_iff_toInt_lt.mpr c3
        have d4 : ¬ (nn.toInt < (6 : Int32).toInt) := mt Int32.lt_iff_toInt_lt.mpr c4
        have d5 : ¬ (nn.toInt < (7 : Int32).toInt) := mt Int32.lt_iff_toInt_lt.mpr c5
        omega
       obtain ⟨T172, h172, L172, tm172, fr172, tl172, la172, LL172, xs172, fs172, X172, e172, N172, hR172, ba172, bb172, bc172, bd172, be172, bf172, st172⟩ := o_bookX_m1 hw n0 pp rc ru wa tm149 fr149 tl149 la149 LL149 (((((((0 : Int64) + (1 : Int64)) + (1 : Int64)) + (1 : Int64)) + (1 : Int64)) + (1 : Int64)) + (1 : Int64)) (0 : Int64) xs149 fs149 (o_put (o_put (o_put (o_put (o_put (o_put (fun _ => 0) (0 + 1) x0 x1 (0 : Int64)) (1 + 1) y0 y1 (0 : Int64)) (2 + 1) (0 : Int64) (1 : Int64) (0 : Int64)) (3 + 1) (-9223372036854775808 : Int64) (-9223372036854775807 : Int64) (0 : Int64)) (4 + 1) (9223372036854775806 : Int64) (9223372036854775807 : Int64) (0 : Int64)) (5 + 1) (-10 : Int64) (10 : Int64) (0 : Int64)) (100 : Int64) (200 : Int64) 6 10 16 9 16 X149 hx hZ e149 hown hP171 ba149 bc149 bd149 q173 (by decide) (by decide) (by decide) (by unfold o_D; omega) bf149 (fun q => absurd q (by decide)) (g := (o_f36 m 241 x y z frmL toL kq x0 x1 y0 y1 nn sn pp [(.int (1 : Int32)), (.long (200 : Int64)), (.long (100 : Int64)), (.ref pp)])) rfl (by rw [hml]; rfl) rfl rfl (hb hby at_241)
       have N_172 := Fr.app N_149 N172
       obtain ⟨Ep174, Er174, Ew174, F174_cpus, F174_times, F174_free, F174_head, F174_tail, F174_lastAt, F174_runs, F174_firstKnown, F174_watcher, F174_watchedAs, F174_changes, F174_merged, F174_gaveBack, F174_recent, Fn174, At174, Af174, Ar174, nt174, wl174, gp174, gt174, gf174, gr174, gu174⟩ := hR172
       have ne175 : o_ne pp ru := Ep174.ne Er174 (by decide)
       have ne176 : o_ne pp tm172 := At174.neExa Ep174 (o_m hw 8 rfl)
       have ne177 : o_ne ru tm172 := At174.neExa Er174 (o_m hw 17 rfl)
       have ne178 : o_ne pp fr172 := Af174.neExa Ep174 (o_m hw 8 rfl)
       have ne179 : o_ne ru fr172 := Af174.neExa Er174 (o_m hw 17 rfl)
       have ne180 : o_ne pp rc := Ar174.neExa Ep174 (o_m hw 8 rfl)
       have ne181 : o_ne ru rc := Ar174.neExa Er174 (o_m hw 17 rfl)
       have ne182 : o_ne wa pp := Nat.ne_of_lt (Nat.lt_of_lt_of_le wl174 gp174)
       have ne183 : o_ne wa tm172 := Nat.ne_of_lt (Nat.lt_of_lt_of_le wl174 gt174)
       have ne184 : o_ne wa fr172 := Nat.ne_of_lt (Nat.lt_of_lt_of_le wl174 gf174)
       have ne185 : o_ne wa rc := Nat.ne_of_lt (Nat.lt_of_lt_of_le wl174 gr174)
       have ne186 : o_ne wa ru := Nat.ne_of_lt (Nat.lt_of_lt_of_le wl174 gu174)
       have ne187 : o_ne tm172 fr172 := At174.ne Af174 (by intro q; cases q)
       have ne188 : o_ne fr172 rc := Af174.ne Ar174 (by intro q; cases q)
       refine o_q T172 (o_f36 m 244 x y z frmL toL kq x0 x1 y0 y1 nn sn pp []) st172 ?_
       refine o_q T172 (o_f36 m 246 x y z frmL toL kq x0 x1 y0 y1 nn sn pp [(.int nn)]) (fun _ k => XS.iload X172.here hx rfl (hb hby at_244) rfl k) ?_
       refine o_q T172 (o_f36 m 248 x y z frmL toL kq x0 x1 y0 y1 nn sn pp [(.int (8 : Int32)), (.int nn)]) (fun _ k => XS.bipush X172.here hx rfl (hb hby at_246) k) ?_
       by_cases c6 : nn < (8 : Int32)
       ·refine o_q T172 (o_f36 m 263 x y z frmL toL kq x0 x1 y0 y1 nn sn pp []) (fun _ k => XS.icmpYes X172.here hx rfl (pc0 := 248) (pc' := 263) rfl (hb hby at_248) rfl (tlt c6).1 (by decide) (by decide) k) ?_
        refine o_q T172 (o_f36 m 265 x y z frmL toL kq x0 x1 y0 y1 nn sn pp [(.int nn)]) (fun _ k => XS.iload X172.here hx rfl (hb hby at_263) rfl k) ?_
        refine o_q T172 (o_f36 m 267 x y z frmL toL kq x0 x1 y0 y1 nn sn pp [(.int (9 : Int32)), (.int nn)]) (fun _ k => XS.bipush X172.here hx rfl (hb hby at_265) k) ?_
        have q189 : nn.toInt < (9 : Int32).toInt := by
         have r1 := rng32 nn
         have k2 : (9 : Int32).toInt = 9 := by decide
         have k3 : (2 : Int32).toInt = 2 := by decide
         have k4 : (3 : Int32).toInt = 3 := by decide
         have k5 : (4 : Int32).toInt = 4 := by decide
         have k6 : (5 : Int32).toInt = 5 := by decide
         have k7 : (6 : Int32).toInt = 6 := by decide
         have k8 : (7 : Int32).toInt = 7 := by decide
         have k9 : (8 : Int32).toInt = 8 := by decide
         have d0 : ¬ (nn.toInt < (2 : Int32).toInt) := mt Int32.lt_iff_toInt_lt.mpr c0
         have d1 : ¬ (nn.toInt < (3 : Int32).toInt) := mt Int32.lt_iff_toInt_lt.mpr c1
         have d2 : ¬ (nn.toInt < (4 : Int32).toInt) := mt Int32.lt_iff_toInt_lt.mpr c2
         have d3 : ¬ (nn.toInt < (5 : Int32).toInt) := mt Int32.lt_iff_toInt_lt.mpr c3
         have d4 : ¬ (nn.toInt < (6 : Int32).toInt) := mt Int32.lt_iff_toInt_lt.mpr c4
         have d5 : ¬ (nn.toInt < (7 : Int32).toInt) := mt Int32.lt_iff_toInt_lt.mpr c5
         have d6 : nn.toInt < (8 : Int32).toInt := Int32.lt_iff_toInt_lt.mp c6
         omega
        refine o_q T172 (o_f36 m 282 x y z frmL toL kq x0 x1 y0 y1 nn sn pp []) (fun _ k => XS.icmpYes X172.here hx rfl (pc0 := 267) (pc' := 282) rfl (hb hby at_267) rfl (tlt (Int32.lt_iff_toInt_lt.mpr q189)).1 (by decide) (by decide) k) ?_
        refine o_q T172 (o_f36 m 284 x y z frmL toL kq x0 x1 y0 y1 nn sn pp [(.ref pp)]) (fun _ k => XS.aload X172.here hx rfl (hb hby at_282) rfl rfl k) ?_
        refine o_q T172 (o_f36 m 286 x y z frmL toL kq x0 x1 y0 y1 nn sn pp [(.int sn), (.ref pp)]) (fun _ k => XS.iload X172.here hx rfl (hb hby at_284) rfl k) ?_
        refine o_q T172 (o_f36 m 287 x y z frmL toL kq x0 x1 y0 y1 nn sn pp [(.long (sn).toInt64), (.ref pp)]) (fun _ k => XS.i2l X172.here hx rfl (hb hby at_286) rfl k) ?_
        refine o_q T172 (o_f36 m 289 x y z frmL toL kq x0 x1 y0 y1 nn sn pp [(.long frmL), (.long (sn).toInt64), (.ref pp)]) (fun _ k => XS.lload X172.here hx rfl (hb hby at_287) rfl k) ?_
        refine o_q T172 (o_f36 m 291 x y z frmL toL kq x0 x1 y0 y1 nn sn pp [(.long toL), (.long frmL), (.long (sn).toInt64), (.ref pp)]) (fun _ k => XS.lload X172.here hx rfl (hb hby at_289) rfl k) ?_
        have hP190 : o_Pr Z n0 pp rc ru wa tm172 fr172 tl172 la172 LL172 ((((((((0 : Int64) + (1 : Int64)) + (1 : Int64)) + (1 : Int64)) + (1 : Int64)) + (1 : Int64)) + (1 : Int64)) + (1 : Int64)) (0 : Int64) xs172 fs172 (o_put (o_put (o_put (o_put (o_put (o_put (o_put (fun _ => 0) (0 + 1) x0 x1 (0 : Int64)) (1 + 1) y0 y1 (0 : Int64)) (2 + 1) (0 : Int64) (1 : Int64) (0 : Int64)) (3 + 1) (-9223372036854775808 : Int64) (-9223372036854775807 : Int64) (0 : Int64)) (4 + 1) (9223372036854775806 : Int64) (9223372036854775807 : Int64) (0 : Int64)) (5 + 1) (-10 : Int64) (10 : Int64) (0 : Int64)) (6 + 1) (100 : Int64) (200 : Int64) (0 : Int64)) h172 := ⟨Ep174, Er174, Ew174, F174_cpus, F174_times, F174_free, F174_head, F174_tail, F174_lastAt, F174_runs, F174_firstKnown, F174_watcher, F174_watchedAs, F174_changes, F174_merged, F174_gaveBack, F174_recent, Fn174, At174, Af174, Ar174, nt174, wl174, gp174, gt174, gf174, gr174, gu174⟩
        have nj191 : nn.toInt = 7 := by
         have r1 := rng32 nn
         have k2 : (2 : Int32).toInt = 2 := by decide
         have k3 : (3 : Int32).toInt = 3 := by decide
         have k4 : (4 : Int32).toInt = 4 := by decide
         have k5 : (5 : Int32).toInt = 5 := by decide
         have k6 : (6 : Int32).toInt = 6 := by decide
         have k7 : (7 : Int32).toInt = 7 := by decide
         have k8 : (8 : Int32).toInt = 8 := by decide
         have d0 : ¬ (nn.toInt < (2 : Int32).toInt) := mt Int32.lt_iff_toInt_lt.mpr c0
         have d1 : ¬ (nn.toInt < (3 : Int32).toInt) := mt Int32.lt_iff_toInt_lt.mpr c1
         have d2 : ¬ (nn.toInt < (4 : Int32).toInt) := mt Int32.lt_iff_toInt_lt.mpr c2
         have d3 : ¬ (nn.toInt < (5 : Int32).toInt) := mt Int32.lt_iff_toInt_lt.mpr c3
         have d4 : ¬ (nn.toInt < (6 : Int32).toInt) := mt Int32.lt_iff_toInt_lt.mpr c4
         have d5 : ¬ (nn.toInt < (7 : Int32).toInt) := mt Int32.lt_iff_toInt_lt.mpr c5
         have d6 : nn.toInt < (8 : Int32).toInt := Int32.lt_iff_toInt_lt.mp c6
         omega
        have nl191 : nn = (7 : Int32) := Int32.toInt_inj.mp (nj191.trans (by decide))
        have hs191 : ((sn).toInt64).toInt = ((sn.toNatClampNeg : Nat) : Int) := (c_i2l sn).trans (o_nat sn rs0.1).symm
        have sb191 : sn.toNatClampNeg ≤ 7 := by have := o_nat sn rs0.1; omega
        have cl191 := o_cL_le LL172
        have Xo191 : Stand p l e room_1 s m #[(.long x), (.long y), (.long z), (.long frmL), (.long toL), (.int kq)] below meth c T172 _ 12 258 := X172.more (by omega) (by omega)
        obtain ⟨v192, T192, L192, hQ192, X192, st192⟩ := o_callV Xo191 hx hZ e172 hown (o_m hw 126 rfl) (o_m hw 127 rfl) (o_m hw 129 rfl) (o_m hw 128 rfl) (by decide) (b := pp) Ep174 (o_m hw 130 rfl) (o_m hw 9 rfl) (o_over l Z a0 hw n0 pp rc ru wa tm172 fr172 tl172 la172 LL172 ((((((((0 : Int64) + (1 : Int64)) + (1 : Int64)) + (1 : Int64)) + (1 : Int64)) + (1 : Int64)) + (1 : Int64)) + (1 : Int64)) (0 : Int64) xs172 fs172 (o_put (o_put (o_put (o_put (o_put (o_put (o_put (fun _ => 0) (0 + 1) x0 x1 (0 : Int64)) (1 + 1) y0 y1 (0 : Int64)) (2 + 1) (0 : Int64) (1 : Int64) (0 : Int64)) (3 + 1) (-9223372036854775808 : Int64) (-9223372036854775807 : Int64) (0 : Int64)) (4 + 1) (9223372036854775806 : Int64) (9223372036854775807 : Int64) (0 : Int64)) (5 + 1) (-10 : Int64) (10 : Int64) (0 : Int64)) (6 + 1) (100 : Int64) (200 : Int64) (0 : Int64)) ((sn).toInt64) frmL toL 7 sn.toNatClampNeg h172 hP190 (by decide) hs191 sb191 (by decide)) (g := (o_f36 m 291 x y z frmL toL kq x0 x1 y0 y1 nn sn pp [(.long toL), (.long frmL), (.long (sn).toInt64), (.ref pp)])) rfl (by rw [hml]; rfl) rfl (argsL := [(.long (sn).toInt64), (.long frmL), (.long toL)]) (rest := []) rfl (lenOf o_pd10 rfl) rfl (hb hby at_291) (o_b rfl) (o_b rfl) (o_b rfl) (o_b rfl)
        obtain ⟨rfl, rfl, e192⟩ := hQ192
        rw [List.append_nil] at X192
        refine o_q T192 (o_f36 m 294 x y z frmL toL kq x0 x1 y0 y1 nn sn pp [(.int (o_co (o_put (o_put (o_put (o_put (o_put (o_put (o_put (fun _ => 0) (0 + 1) x0 x1 (0 : Int64)) (1 + 1) y0 y1 (0 : Int64)) (2 + 1) (0 : Int64) (1 : Int64) (0 : Int64)) (3 + 1) (-9223372036854775808 : Int64) (-9223372036854775807 : Int64) (0 : Int64)) (4 + 1) (9223372036854775806 : Int64) (9223372036854775807 : Int64) (0 : Int64)) (5 + 1) (-10 : Int64) (10 : Int64) (0 : Int64)) (6 + 1) (100 : Int64) (200 : Int64) (0 : Int64)) frmL toL 7 sn.toNatClampNeg))]) st192 ?_
        refine o_q T192 (o_f31 m 296 x y z frmL toL kq x0 x1 y0 y1 nn sn pp (o_co (o_put (o_put (o_put (o_put (o_put (o_put (o_put (fun _ => 0) (0 + 1) x0 x1 (0 : Int64)) (1 + 1) y0 y1 (0 : Int64)) (2 + 1) (0 : Int64) (1 : Int64) (0 : Int64)) (3 + 1) (-9223372036854775808 : Int64) (-9223372036854775807 : Int64) (0 : Int64)) (4 + 1) (9223372036854775806 : Int64) (9223372036854775807 : Int64) (0 : Int64)) (5 + 1) (-10 : Int64) (10 : Int64) (0 : Int64)) (6 + 1) (100 : Int64) (200 : Int64) (0 : Int64)) frmL toL 7 sn.toNatClampNeg) []) (fun _ k => XS.istore X192.here hx rfl (hb hby at_294) rfl (l' := (o_t31 x y z frmL toL kq x0 x1 y0 y1 nn sn pp (o_co (o_put (o_put (o_put (o_put (o_put (o_put (o_put (fun _ => 0) (0 + 1) x0 x1 (0 : Int64)) (1 + 1) y0 y1 (0 : Int64)) (2 + 1) (0 : Int64) (1 : Int64) (0 : Int64)) (3 + 1) (-9223372036854775808 : Int64) (-9223372036854775807 : Int64) (0 : Int64)) (4 + 1) (9223372036854775806 : Int64) (9223372036854775807 : Int64) (0 : Int64)) (5 + 1) (-10 : Int64) (10 : Int64) (0 : Int64)) (6 + 1) (100 : Int64) (200 : Int64) (0 : Int64)) frmL toL 7 sn.toNatClampNeg))) rfl k) ?_
        have hg : (o_co (o_put (o_put (o_put (o_put (o_put (o_put (o_put (fun _ => 0) (0 + 1) x0 x1 (0 : Int64)) (1 + 1) y0 y1 (0 : Int64)) (2 + 1) (0 : Int64) (1 : Int64) (0 : Int64)) (3 + 1) (-9223372036854775808 : Int64) (-9223372036854775807 : Int64) (0 : Int64)) (4 + 1) (9223372036854775806 : Int64) (9223372036854775807 : Int64) (0 : Int64)) (5 + 1) (-10 : Int64) (10 : Int64) (0 : Int64)) (6 + 1) (100 : Int64) (200 : Int64) (0 : Int64)) frmL toL 7 sn.toNatClampNeg) = o_w0 nn sn x0 x1 y0 y1 frmL toL := by rw [nl191]; exact o_fin7 sn ⟨rs0.1, by omega⟩ x0 x1 y0 y1 frmL toL
        exact o_J0 Z a0 hw n0 x y z frmL toL kq x0 x1 y0 y1 nn sn pp (o_co (o_put (o_put (o_put (o_put (o_put (o_put (o_put (fun _ => 0) (0 + 1) x0 x1 (0 : Int64)) (1 + 1) y0 y1 (0 : Int64)) (2 + 1) (0 : Int64) (1 : Int64) (0 : Int64)) (3 + 1) (-9223372036854775808 : Int64) (-9223372036854775807 : Int64) (0 : Int64)) (4 + 1) (9223372036854775806 : Int64) (9223372036854775807 : Int64) (0 : Int64)) (5 + 1) (-10 : Int64) (10 : Int64) (0 : Int64)) (6 + 1) (100 : Int64) (200 : Int64) (0 : Int64)) frmL toL 7 sn.toNatClampNeg) hx hby hml hZ hown hret hlk X192 e192 N_172 hg
       ·refine o_q T172 (o_f36 m 251 x y z frmL toL kq x0 x1 y0 y1 nn sn pp []) (fun _ k => XS.icmpNo X172.here hx rfl (hb hby at_248) rfl (flt c6).1 k) ?_
        refine o_q T172 (o_f36 m 253 x y z frmL toL kq x0 x1 y0 y1 nn sn pp [(.ref pp)]) (fun _ k => XS.aload X172.here hx rfl (hb hby at_251) rfl rfl k) ?_
        refine o_q T172 (o_f36 m 256 x y z frmL toL kq x0 x1 y0 y1 nn sn pp [(.long (-200 : Int64)), (.ref pp)]) (fun _ k => X172.ldc2Long hx hown (mvT hZ (o_m hw 161 rfl)) (g := (o_f36 m 253 x y z frmL toL kq x0 x1 y0 y1 nn sn pp [(.ref pp)])) rfl (hb hby at_253) _ k) ?_
        refine o_q T172 (o_f36 m 259 x y z frmL toL kq x0 x1 y0 y1 nn sn pp [(.long (-100 : Int64)), (.long (-200 : Int64)), (.ref pp)]) (fun _ k => X172.ldc2Long hx hown (mvT hZ (o_m hw 162 rfl)) (g := (o_f36 m 256 x y z frmL toL kq x0 x1 y0 y1 nn sn pp [(.long (-200 : Int64)), (.ref pp)])) rfl (hb hby at_256) _ k) ?_
        refine o_q T172 (o_f36 m 260 x y z frmL toL kq x0 x1 y0 y1 nn sn pp [(.int (1 : Int32)), (.long (-100 : Int64)), (.long (-200 : Int64)), (.ref pp)]) (fun _ k => XS.iconst X172.here hx rfl (hb hby at_259) k) ?_
        have hP193 : o_Pr Z n0 pp rc ru wa tm172 fr172 tl172 la172 LL172 ((((((((0 : Int64) + (1 : Int64)) + (1 : Int64)) + (1 : Int64)) + (1 : Int64)) + (1 : Int64)) + (1 : Int64)) + (1 : Int64)) (0 : Int64) xs172 fs172 (o_put (o_put (o_put (o_put (o_put (o_put (o_put (fun _ => 0) (0 + 1) x0 x1 (0 : Int64)) (1 + 1) y0 y1 (0 : Int64)) (2 + 1) (0 : Int64) (1 : Int64) (0 : Int64)) (3 + 1) (-9223372036854775808 : Int64) (-9223372036854775807 : Int64) (0 : Int64)) (4 + 1) (9223372036854775806 : Int64) (9223372036854775807 : Int64) (0 : Int64)) (5 + 1) (-10 : Int64) (10 : Int64) (0 : Int64)) (6 + 1) (100 : Int64) (200 : Int64) (0 : Int64)) h172 := ⟨Ep174, Er174, Ew174, F174_cpus, F174_times, F174_free, F174_head, F174_tail, F174_lastAt, F174_runs, F174_firstKnown, F174_watcher, F174_watchedAs, F174_changes, F174_merged, F174_gaveBack, F174_recent, Fn174, At174, Af174, Ar174, nt174, wl174, gp174, gt174, gf174, gr174, gu174⟩
        have q195 : tl172.toInt + 2 ≤ 32 := by
         have r1 := rng32 tl172
         have k2 : (1 : Int32).toInt = 1 := by decide
         have r3 := rng32 nn
         have k4 : (2 : Int32).toInt = 2 := by decide
         have k5 : (3 : Int32).toInt = 3 := by decide
         have k6 : (4 : Int32).toInt = 4 := by decide
         have k7 : (5 : Int32).toInt = 5 := by decide
         have k8 : (6 : Int32).toInt = 6 := by decide
         have k9 : (7 : Int32).toInt = 7 := by decide
         have k10 : (8 : Int32).toInt = 8 := by decide
         have d0 : ¬ (nn.toInt < (2 : Int32).toInt) := mt Int32.lt_iff_toInt_lt.mpr c0
         have d1 : ¬ (nn.toInt < (3 : Int32).toInt) := mt Int32.lt_iff_toInt_lt.mpr c1
         have d2 : ¬ (nn.toInt < (4 : Int32).toInt) := mt Int32.lt_iff_toInt_lt.mpr c2
         have d3 : ¬ (nn.toInt < (5 : Int32).toInt) := mt Int32.lt_iff_toInt_lt.mpr c3
         have d4 : ¬ (nn.toInt < (6 : Int32).toInt) := mt Int32.lt_iff_toInt_lt.mpr c4
         have d5 : ¬ (nn.toInt < (7 : Int32).toInt) := mt Int32.lt_iff_toInt_lt.mpr c5
         have d6 : ¬ (nn.toInt < (8 : Int32).toInt) := mt Int32.lt_iff_toInt_lt.mpr c6
         omega
        obtain ⟨T194, h194, L194, tm194, fr194, tl194, la194, LL194, xs194, fs194, X194, e194, N194, hR194, ba194, bb194, bc194, bd194, be194, bf194, st194⟩ := o_bookX_m1 hw n0 pp rc ru wa tm172 fr172 tl172 la172 LL172 ((((((((0 : Int64) + (1 : Int64)) + (1 : Int64)) + (1 : Int64)) + (1 : Int64)) + (1 : Int64)) + (1 : Int64)) + (1 : Int64)) (0 : Int64) xs172 fs172 (o_put (o_put (o_put (o_put (o_put (o_put (o_put (fun _ => 0) (0 + 1) x0 x1 (0 : Int64)) (1 + 1) y0 y1 (0 : Int64)) (2 + 1) (0 : Int64) (1 : Int64) (0 : Int64)) (3 + 1) (-9223372036854775808 : Int64) (-9223372036854775807 : Int64) (0 : Int64)) (4 + 1) (9223372036854775806 : Int64) (9223372036854775807 : Int64) (0 : Int64)) (5 + 1) (-10 : Int64) (10 : Int64) (0 : Int64)) (6 + 1) (100 : Int64) (200 : Int64) (0 : Int64)) (-200 : Int64) (-100 : Int64) 7 9 16 8 16 X172 hx hZ e172 hown hP193 ba172 bc172 bd172 q195 (by decide) (by decide) (by decide) (by unfold o_D; omega) bf172 (fun q => absurd q (by decide)) (g := (o_f36 m 260 x y z frmL toL kq x0 x1 y0 y1 nn sn pp [(.int (1 : Int32)), (.long (-100 : Int64)), (.long (-200 : Int64)), (.ref pp)])) rfl (by rw [hml]; rfl) rfl rfl (hb hby at_260)
        have N_194 := Fr.app N_172 N194
        obtain ⟨Ep196, Er196, Ew196, F196_cpus, F196_times, F196_free, F196_head, F196_tail, F196_lastAt, F196_runs, F196_firstKnown, F196_watcher, F196_watchedAs, F196_changes, F196_merged, F196_gaveBack, F196_recent, Fn196, At196, Af196, Ar196, nt196, wl196, gp196, gt196, gf196, gr196, gu196⟩ := hR194
        have ne197 : o_ne pp ru := Ep196.ne Er196 (by decide)
        have ne198 : o_ne pp tm194 := At196.neExa Ep196 (o_m hw 8 rfl)
        have ne199 : o_ne ru tm194 := At196.neExa Er196 (o_m hw 17 rfl)
        have ne200 : o_ne pp fr194 := Af196.neExa Ep196 (o_m hw 8 rfl)
        have ne201 : o_ne ru fr194 := Af196.neExa Er196 (o_m hw 17 rfl)
        have ne202 : o_ne pp rc := Ar196.neExa Ep196 (o_m hw 8 rfl)
        have ne203 : o_ne ru rc := Ar196.neExa Er196 (o_m hw 17 rfl)
        have ne204 : o_ne wa pp := Nat.ne_of_lt (Nat.lt_of_lt_of_le wl196 gp196)
        have ne205 : o_ne wa tm194 := Nat.ne_of_lt (Nat.lt_of_lt_of_le wl196 gt196)
        have ne206 : o_ne wa fr194 := Nat.ne_of_lt (Nat.lt_of_lt_of_le wl196 gf196)
        have ne207 : o_ne wa rc := Nat.ne_of_lt (Nat.lt_of_lt_of_le wl196 gr196)
        have ne208 : o_ne wa ru := Nat.ne_of_lt (Nat.lt_of_lt_of_le wl196 gu196)
        have ne209 : o_ne tm194 fr194 := At196.ne Af196 (by intro q; cases q)
        have ne210 : o_ne fr194 rc := Af196.ne Ar196 (by intro q; cases q)
        refine o_q T194 (o_f36 m 263 x y z frmL toL kq x0 x1 y0 y1 nn sn pp []) st194 ?_
        refine o_q T194 (o_f36 m 265 x y z frmL toL kq x0 x1 y0 y1 nn sn pp [(.int nn)]) (fun _ k => XS.iload X194.here hx rfl (hb hby at_263) rfl k) ?_
        refine o_q T194 (o_f36 m 267 x y z frmL toL kq x0 x1 y0 y1 nn sn pp [(.int (9 : Int32)), (.int nn)]) (fun _ k => XS.bipush X194.here hx rfl (hb hby at_265) k) ?_
        by_cases c7 : nn < (9 : Int32)
        ·refine o_q T194 (o_f36 m 282 x y z frmL toL kq x0 x1 y0 y1 nn sn pp []) (fun _ k => XS.icmpYes X194.here hx rfl (pc0 := 267) (pc' := 282) rfl (hb hby at_267) rfl (tlt c7).1 (by decide) (by decide) k) ?_
         refine o_q T194 (o_f36 m 284 x y z frmL toL kq x0 x1 y0 y1 nn sn pp [(.ref pp)]) (fun _ k => XS.aload X194.here hx rfl (hb hby at_282) rfl rfl k) ?_
         refine o_q T194 (o_f36 m 286 x y z frmL toL kq x0 x1 y0 y1 nn sn pp [(.int sn), (.ref pp)]) (fun _ k => XS.iload X194.here hx rfl (hb hby at_284) rfl k) ?_
         refine o_q T194 (o_f36 m 287 x y z frmL toL kq x0 x1 y0 y1 nn sn pp [(.long (sn).toInt64), (.ref pp)]) (fun _ k => XS.i2l X194.here hx rfl (hb hby at_286) rfl k) ?_
         refine o_q T194 (o_f36 m 289 x y z frmL toL kq x0 x1 y0 y1 nn sn pp [(.long frmL), (.long (sn).toInt64), (.ref pp)]) (fun _ k => XS.lload X194.here hx rfl (hb hby at_287) rfl k) ?_
         refine o_q T194 (o_f36 m 291 x y z frmL toL kq x0 x1 y0 y1 nn sn pp [(.long toL), (.long frmL), (.long (sn).toInt64), (.ref pp)]) (fun _ k => XS.lload X194.here hx rfl (hb hby at_289) rfl k) ?_
         have hP211 : o_Pr Z n0 pp rc ru wa tm194 fr194 tl194 la194 LL194 (((((((((0 : Int64) + (1 : Int64)) + (1 : Int64)) + (1 : Int64)) + (1 : Int64)) + (1 : Int64)) + (1 : Int64)) + (1 : Int64)) + (1 : Int64)) (0 : Int64) xs194 fs194 (o_put (o_put (o_put (o_put (o_put (o_put (o_put (o_put (fun _ => 0) (0 + 1) x0 x1 (0 : Int64)) (1 + 1) y0 y1 (0 : Int64)) (2 + 1) (0 : Int64) (1 : Int64) (0 : Int64)) (3 + 1) (-9223372036854775808 : Int64) (-9223372036854775807 : Int64) (0 : Int64)) (4 + 1) (9223372036854775806 : Int64) (9223372036854775807 : Int64) (0 : Int64)) (5 + 1) (-10 : Int64) (10 : Int64) (0 : Int64)) (6 + 1) (100 : Int64) (200 : Int64) (0 : Int64)) (7 + 1) (-200 : Int64) (-100 : Int64) (0 : Int64)) h194 := ⟨Ep196, Er196, Ew196, F196_cpus, F196_times, F196_free, F196_head, F196_tail, F196_lastAt, F196_runs, F196_firstKnown, F196_watcher, F196_watchedAs, F196_changes, F196_merged, F196_gaveBack, F196_recent, Fn196, At196, Af196, Ar196, nt196, wl196, gp196, gt196, gf196, gr196, gu196⟩
         have nj212 : nn.toInt = 8 := by
          have r1 := rng32 nn
          have k2 : (2 : Int32).toInt = 2 := by decide
          have k3 : (3 : Int32).toInt = 3 := by decide
          have k4 : (4 : Int32).toInt = 4 := by decide
          have k5 : (5 : Int32).toInt = 5 := by decide
          have k6 : (6 : Int32).toInt = 6 := by decide
          have k7 : (7 : Int32).toInt = 7 := by decide
          have k8 : (8 : Int32).toInt = 8 := by decide
          have k9 : (9 : Int32).toInt = 9 := by decide
          have d0 : ¬ (nn.toInt < (2 : Int32).toInt) := mt Int32.lt_iff_toInt_lt.mpr c0
          have d1 : ¬ (nn.toInt < (3 : Int32).toInt) := mt Int32.lt_iff_toInt_lt.mpr c1
          have d2 : ¬ (nn.toInt < (4 : Int32).toInt) := mt Int32.lt_iff_toInt_lt.mpr c2
          have d3 : ¬ (nn.toInt < (5 : Int32).toInt) := mt Int32.lt_iff_toInt_lt.mpr c3
          have d4 : ¬ (nn.toInt < (6 : Int32).toInt) := mt Int32.lt_iff_toInt_lt.mpr c4
          have d5 : ¬ (nn.toInt < (7 : Int32).toInt) := mt Int32.lt_iff_toInt_lt.mpr c5
          have d6 : ¬ (nn.toInt < (8 : Int32).toInt) := mt Int32.lt_iff_toInt_lt.mpr c6
          have d7 : nn.toInt < (9 : Int32).toInt := Int32.lt_iff_toInt_lt.mp c7
          omega
         have nl212 : nn = (8 : Int32) := Int32.toInt_inj.mp (nj212.trans (by decide))
         have hs212 : ((sn).toInt64).toInt = ((sn.toNatClampNeg : Nat) : Int) := (c_i2l sn).trans (o_nat sn rs0.1).symm
         have sb212 : sn.toNatClampNeg ≤ 8 := by have := o_nat sn rs0.1; omega
         have cl212 := o_cL_le LL194
         have Xo212 : Stand p l e room_1 s m #[(.long x), (.long y), (.long z), (.long frmL), (.long toL), (.int kq)] below meth c T194 _ 12 258 := X194.more (by omega) (by omega)
         obtain ⟨v213, T213, L213, hQ213, X213, st213⟩ := o_callV Xo212 hx hZ e194 hown (o_m hw 126 rfl) (o_m hw 127 rfl) (o_m hw 129 rfl) (o_m hw 128 rfl) (by decide) (b := pp) Ep196 (o_m hw 130 rfl) (o_m hw 9 rfl) (o_over l Z a0 hw n0 pp rc ru wa tm194 fr194 tl194 la194 LL194 (((((((((0 : Int64) + (1 : Int64)) + (1 : Int64)) + (1 : Int64)) + (1 : Int64)) + (1 : Int64)) + (1 : Int64)) + (1 : Int64)) + (1 : Int64)) (0 : Int64) xs194 fs194 (o_put (o_put (o_put (o_put (o_put (o_put (o_put (o_put (fun _ => 0) (0 + 1) x0 x1 (0 : Int64)) (1 + 1) y0 y1 (0 : Int64)) (2 + 1) (0 : Int64) (1 : Int64) (0 : Int64)) (3 + 1) (-9223372036854775808 : Int64) (-9223372036854775807 : Int64) (0 : Int64)) (4 + 1) (9223372036854775806 : Int64) (9223372036854775807 : Int64) (0 : Int64)) (5 + 1) (-10 : Int64) (10 : Int64) (0 : Int64)) (6 + 1) (100 : Int64) (200 : Int64) (0 : Int64)) (7 + 1) (-200 : Int64) (-100 : Int64) (0 : Int64)) ((sn).toInt64) frmL toL 8 sn.toNatClampNeg h194 hP211 (by decide) hs212 sb212 (by decide)) (g := (o_f36 m 291 x y z frmL toL kq x0 x1 y0 y1 nn sn pp [(.long toL), (.long frmL), (.long (sn).toInt64), (.ref pp)])) rfl (by rw [hml]; rfl) rfl (argsL := [(.long (sn).toInt64), (.long frmL), (.long toL)]) (rest := []) rfl (lenOf o_pd10 rfl) rfl (hb hby at_291) (o_b rfl) (o_b rfl) (o_b rfl) (o_b rfl)
         obtain ⟨rfl, rfl, e213⟩ := hQ213
         rw [List.append_nil] at X213
         refine o_q T213 (o_f36 m 294 x y z frmL toL kq x0 x1 y0 y1 nn sn pp [(.int (o_co (o_put (o_put (o_put (o_put (o_put (o_put (o_put (o_put (fun _ => 0) (0 + 1) x0 x1 (0 : Int64)) (1 + 1) y0 y1 (0 : Int64)) (2 + 1) (0 : Int64) (1 : Int64) (0 : Int64)) (3 + 1) (-9223372036854775808 : Int64) (-9223372036854775807 : Int64) (0 : Int64)) (4 + 1) (9223372036854775806 : Int64) (9223372036854775807 : Int64) (0 : Int64)) (5 + 1) (-10 : Int64) (10 : Int64) (0 : Int64)) (6 + 1) (100 : Int64) (200 : Int64) (0 : Int64)) (7 + 1) (-200 : Int64) (-100 : Int64) (0 : Int64)) frmL toL 8 sn.toNatClampNeg))]) st213 ?_
         refine o_q T213 (o_f31 m 296 x y z frmL toL kq x0 x1 y0 y1 nn sn pp (o_co (o_put (o_put (o_put (o_put (o_put (o_put (o_put (o_put (fun _ => 0) (0 + 1) x0 x1 (0 : Int64)) (1 + 1) y0 y1 (0 : Int64)) (2 + 1) (0 : Int64) (1 : Int64) (0 : Int64)) (3 + 1) (-9223372036854775808 : Int64) (-9223372036854775807 : Int64) (0 : Int64)) (4 + 1) (9223372036854775806 : Int64) (9223372036854775807 : Int64) (0 : Int64)) (5 + 1) (-10 : Int64) (10 : Int64) (0 : Int64)) (6 + 1) (100 : Int64) (200 : Int64) (0 : Int64)) (7 + 1) (-200 : Int64) (-100 : Int64) (0 : Int64)) frmL toL 8 sn.toNatClampNeg) []) (fun _ k => XS.istore X213.here hx rfl (hb hby at_294) rfl (l' := (o_t31 x y z frmL toL kq x0 x1 y0 y1 nn sn pp (o_co (o_put (o_put (o_put (o_put (o_put (o_put (o_put (o_put (fun _ => 0) (0 + 1) x0 x1 (0 : Int64)) (1 + 1) y0 y1 (0 : Int64)) (2 + 1) (0 : Int64) (1 : Int64) (0 : Int64)) (3 + 1) (-9223372036854775808 : Int64) (-9223372036854775807 : Int64) (0 : Int64)) (4 + 1) (9223372036854775806 : Int64) (9223372036854775807 : Int64) (0 : Int64)) (5 + 1) (-10 : Int64) (10 : Int64) (0 : Int64)) (6 + 1) (100 : Int64) (200 : Int64) (0 : Int64)) (7 + 1) (-200 : Int64) (-100 : Int64) (0 : Int64)) frmL toL 8 sn.toNatClampNeg))) rfl k) ?_
         have hg : (o_co (o_put (o_put (o_put (o_put (o_put (o_put (o_put (o_put (fun _ => 0) (0 + 1) x0 x1 (0 : Int64)) (1 + 1) y0 y1 (0 : Int64)) (2 + 1) (0 : Int64) (1 : Int64) (0 : Int64)) (3 + 1) (-9223372036854775808 : Int64) (-9223372036854775807 : Int64) (0 : Int64)) (4 + 1) (9223372036854775806 : Int64) (9223372036854775807 : Int64) (0 : Int64)) (5 + 1) (-10 : Int64) (10 : Int64) (0 : Int64)) (6 + 1) (100 : Int64) (200 : Int64) (0 : Int64)) (7 + 1) (-200 : Int64) (-100 : Int64) (0 : Int64)) frmL toL 8 sn.toNatClampNeg) = o_w0 nn sn x0 x1 y0 y1 frmL toL := by rw [nl212]; exact o_fin8 sn ⟨rs0.1, by omega⟩ x0 x1 y0 y1 frmL toL
         exact o_J0 Z a0 hw n0 x y z frmL toL kq x0 x1 y0 y1 nn sn pp (o_co (o_put (o_put (o_put (o_put (o_put (o_put (o_put (o_put (fun _ => 0) (0 + 1) x0 x1 (0 : Int64)) (1 + 1) y0 y1 (0 : Int64)) (2 + 1) (0 : Int64) (1 : Int64) (0 : Int64)) (3 + 1) (-9223372036854775808 : Int64) (-9223372036854775807 : Int64) (0 : Int64)) (4 + 1) (9223372036854775806 : Int64) (9223372036854775807 : Int64) (0 : Int64)) (5 + 1) (-10 : Int64) (10 : Int64) (0 : Int64)) (6 + 1) (100 : Int64) (200 : Int64) (0 : Int64)) (7 + 1) (-200 : Int64) (-100 : Int64) (0 : Int64)) frmL toL 8 sn.toNatClampNeg) hx hby hml hZ hown hret hlk X213 e213 N_194 hg
        ·refine o_q T194 (o_f36 m 270 x y z frmL toL kq x0 x1 y0 y1 nn sn pp []) (fun _ k => XS.icmpNo X194.here hx rfl (hb hby at_267) rfl (flt c7).1 k) ?_
         refine o_q T194 (o_f36 m 272 x y z frmL toL kq x0 x1 y0 y1 nn sn pp [(.ref pp)]) (fun _ k => XS.aload X194.here hx rfl (hb hby at_270) rfl rfl k) ?_
         refine o_q T194 (o_f36 m 275 x y z frmL toL kq x0 x1 y0 y1 nn sn pp [(.long (5 : Int64)), (.ref pp)]) (fun _ k => X194.ldc2Long hx hown (mvT hZ (o_m hw 163 rfl)) (g := (o_f36 m 272 x y z frmL toL kq x0 x1 y0 y1 nn sn pp [(.ref pp)])) rfl (hb hby at_272) _ k) ?_
         refine o_q T194 (o_f36 m 278 x y z frmL toL kq x0 x1 y0 y1 nn sn pp [(.long (6 : Int64)), (.long (5 : Int64)), (.ref pp)]) (fun _ k => X194.ldc2Long hx hown (mvT hZ (o_m hw 164 rfl)) (g := (o_f36 m 275 x y z frmL toL kq x0 x1 y0 y1 nn sn pp [(.long (5 : Int64)), (.ref pp)])) rfl (hb hby at_275) _ k) ?_
         refine o_q T194 (o_f36 m 279 x y z frmL toL kq x0 x1 y0 y1 nn sn pp [(.int (1 : Int32)), (.long (6 : Int64)), (.long (5 : Int64)), (.ref pp)]) (fun _ k => XS.iconst X194.here hx rfl (hb hby at_278) k) ?_
         have hP214 : o_Pr Z n0 pp rc ru wa tm194 fr194 tl194 la194 LL194 (((((((((0 : Int64) + (1 : Int64)) + (1 : Int64)) + (1 : Int64)) + (1 : Int64)) + (1 : Int64)) + (1 : Int64)) + (1 : Int64)) + (1 : Int64)) (0 : Int64) xs194 fs194 (o_put (o_put (o_put (o_put (o_put (o_put (o_put (o_put (fun _ => 0) (0 + 1) x0 x1 (0 : Int64)) (1 + 1) y0 y1 (0 : Int64)) (2 + 1) (0 : Int64) (1 : Int64) (0 : Int64)) (3 + 1) (-9223372036854775808 : Int64) (-9223372036854775807 : Int64) (0 : Int64)) (4 + 1) (9223372036854775806 : Int64) (9223372036854775807 : Int64) (0 : Int64)) (5 + 1) (-10 : Int64) (10 : Int64) (0 : Int64)) (6 + 1) (100 : Int64) (200 : Int64) (0 : Int64)) (7 + 1) (-200 : Int64) (-100 : Int64) (0 : Int64)) h194 := ⟨Ep196, Er196, Ew196, F196_cpus, F196_times, F196_free, F196_head, F196_tail, F196_lastAt, F196_runs, F196_firstKnown, F196_watcher, F196_watchedAs, F196_changes, F196_merged, F196_gaveBack, F196_recent, Fn196, At196, Af196, Ar196, nt196, wl196, gp196, gt196, gf196, gr196, gu196⟩
         have q216 : tl194.toInt + 2 ≤ 32 := by
          have r1 := rng32 tl194
          have k2 : (1 : Int32).toInt = 1 := by decide
          have r3 := rng32 nn
          have k4 : (2 : Int32).toInt = 2 := by decide
          have k5 : (3 : Int32).toInt = 3 := by decide
          have k6 : (4 : Int32).toInt = 4 := by decide
          have k7 : (5 : Int32).toInt = 5 := by decide
          have k8 : (6 : Int32).toInt = 6 := by decide
          have k9 : (7 : Int32).toInt = 7 := by decide
          have k10 : (8 : Int32).toInt = 8 := by decide
          have k11 : (9 : Int32).toInt = 9 := by decide
          have d0 : ¬ (nn.toInt < (2 : Int32).toInt) := mt Int32.lt_iff_toInt_lt.mpr c0
          have d1 : ¬ (nn.toInt < (3 : Int32).toInt) := mt Int32.lt_iff_toInt_lt.mpr c1
          have d2 : ¬ (nn.toInt < (4 : Int32).toInt) := mt Int32.lt_iff_toInt_lt.mpr c2
          have d3 : ¬ (nn.toInt < (5 : Int32).toInt) := mt Int32.lt_iff_toInt_lt.mpr c3
          have d4 : ¬ (nn.toInt < (6 : Int32).toInt) := mt Int32.lt_iff_toInt_lt.mpr c4
          have d5 : ¬ (nn.toInt < (7 : Int32).toInt) := mt Int32.lt_iff_toInt_lt.mpr c5
          have d6 : ¬ (nn.toInt < (8 : Int32).toInt) := mt Int32.lt_iff_toInt_lt.mpr c6
          have d7 : ¬ (nn.toInt < (9 : Int32).toInt) := mt Int32.lt_iff_toInt_lt.mpr c7
          omega
         obtain ⟨T215, h215, L215, tm215, fr215, tl215, la215, LL215, xs215, fs215, X215, e215, N215, hR215, ba215, bb215, bc215, bd215, be215, bf215, st215⟩ := o_bookX_m1 hw n0 pp rc ru wa tm194 fr194 tl194 la194 LL194 (((((((((0 : Int64) + (1 : Int64)) + (1 : Int64)) + (1 : Int64)) + (1 : Int64)) + (1 : Int64)) + (1 : Int64)) + (1 : Int64)) + (1 : Int64)) (0 : Int64) xs194 fs194 (o_put (o_put (o_put (o_put (o_put (o_put (o_put (o_put (fun _ => 0) (0 + 1) x0 x1 (0 : Int64)) (1 + 1) y0 y1 (0 : Int64)) (2 + 1) (0 : Int64) (1 : Int64) (0 : Int64)) (3 + 1) (-9223372036854775808 : Int64) (-9223372036854775807 : Int64) (0 : Int64)) (4 + 1) (9223372036854775806 : Int64) (9223372036854775807 : Int64) (0 : Int64)) (5 + 1) (-10 : Int64) (10 : Int64) (0 : Int64)) (6 + 1) (100 : Int64) (200 : Int64) (0 : Int64)) (7 + 1) (-200 : Int64) (-100 : Int64) (0 : Int64)) (5 : Int64) (6 : Int64) 8 8 16 7 16 X194 hx hZ e194 hown hP214 ba194 bc194 bd194 q216 (by decide) (by decide) (by decide) (by unfold o_D; omega) bf194 (fun q => absurd q (by decide)) (g := (o_f36 m 279 x y z frmL toL kq x0 x1 y0 y1 nn sn pp [(.int (1 : Int32)), (.long (6 : Int64)), (.long (5 : Int64)), (.ref pp)])) rfl (by rw [hml]; rfl) rfl rfl (hb hby at_279)
         have N_215 := Fr.app N_194 N215
         obtain ⟨Ep217, Er217, Ew217, F217_cpus, F217_times, F217_free, F217_head, F217_tail, F217_lastAt, F217_runs, F217_firstKnown, F217_watcher, F217_watchedAs, F217_changes, F217_merged, F217_gaveBack, F217_recent, Fn217, At217, Af217, Ar217, nt217, wl217, gp217, gt217, gf217, gr217, gu217⟩ := hR215
         have ne218 : o_ne pp ru := Ep217.ne Er217 (by decide)
         have ne219 : o_ne pp tm215 := At217.neExa Ep217 (o_m hw 8 rfl)
         have ne220 : o_ne ru tm215 := At217.neExa Er217 (o_m hw 17 rfl)
         have ne221 : o_ne pp fr215 := Af217.neExa Ep217 (o_m hw 8 rfl)
         have ne222 : o_ne ru fr215 := Af217.neExa Er217 (o_m hw 17 rfl)
         have ne223 : o_ne pp rc := Ar217.neExa Ep217 (o_m hw 8 rfl)
         have ne224 : o_ne ru rc := Ar217.neExa Er217 (o_m hw 17 rfl)
         have ne225 : o_ne wa pp := Nat.ne_of_lt (Nat.lt_of_lt_of_le wl217 gp217)
         have ne226 : o_ne wa tm215 := Nat.ne_of_lt (Nat.lt_of_lt_of_le wl217 gt217)
         have ne227 : o_ne wa fr215 := Nat.ne_of_lt (Nat.lt_of_lt_of_le wl217 gf217)
         have ne228 : o_ne wa rc := Nat.ne_of_lt (Nat.lt_of_lt_of_le wl217 gr217)
         have ne229 : o_ne wa ru := Nat.ne_of_lt (Nat.lt_of_lt_of_le wl217 gu217)
         have ne230 : o_ne tm215 fr215 := At217.ne Af217 (by intro q; cases q)
         have ne231 : o_ne fr215 rc := Af217.ne Ar217 (by intro q; cases q)
         refine o_q T215 (o_f36 m 282 x y z frmL toL kq x0 x1 y0 y1 nn sn pp []) st215 ?_
         refine o_q T215 (o_f36 m 284 x y z frmL toL kq x0 x1 y0 y1 nn sn pp [(.ref pp)]) (fun _ k => XS.aload X215.here hx rfl (hb hby at_282) rfl rfl k) ?_
         refine o_q T215 (o_f36 m 286 x y z frmL toL kq x0 x1 y0 y1 nn sn pp [(.int sn), (.ref pp)]) (fun _ k => XS.iload X215.here hx rfl (hb hby at_284) rfl k) ?_
         refine o_q T215 (o_f36 m 287 x y z frmL toL kq x0 x1 y0 y1 nn sn pp [(.long (sn).toInt64), (.ref pp)]) (fun _ k => XS.i2l X215.here hx rfl (hb hby at_286) rfl k) ?_
         refine o_q T215 (o_f36 m 289 x y z frmL toL kq x0 x1 y0 y1 nn sn pp [(.long frmL), (.long (sn).toInt64), (.ref pp)]) (fun _ k => XS.lload X215.here hx rfl (hb hby at_287) rfl k) ?_
         refine o_q T215 (o_f36 m 291 x y z frmL toL kq x0 x1 y0 y1 nn sn pp [(.long toL), (.long frmL), (.long (sn).toInt64), (.ref pp)]) (fun _ k => XS.lload X215.here hx rfl (hb hby at_289) rfl k) ?_
         have hP232 : o_Pr Z n0 pp rc ru wa tm215 fr215 tl215 la215 LL215 ((((((((((0 : Int64) + (1 : Int64)) + (1 : Int64)) + (1 : Int64)) + (1 : Int64)) + (1 : Int64)) + (1 : Int64)) + (1 : Int64)) + (1 : Int64)) + (1 : Int64)) (0 : Int64) xs215 fs215 (o_put (o_put (o_put (o_put (o_put (o_put (o_put (o_put (o_put (fun _ => 0) (0 + 1) x0 x1 (0 : Int64)) (1 + 1) y0 y1 (0 : Int64)) (2 + 1) (0 : Int64) (1 : Int64) (0 : Int64)) (3 + 1) (-9223372036854775808 : Int64) (-9223372036854775807 : Int64) (0 : Int64)) (4 + 1) (9223372036854775806 : Int64) (9223372036854775807 : Int64) (0 : Int64)) (5 + 1) (-10 : Int64) (10 : Int64) (0 : Int64)) (6 + 1) (100 : Int64) (200 : Int64) (0 : Int64)) (7 + 1) (-200 : Int64) (-100 : Int64) (0 : Int64)) (8 + 1) (5 : Int64) (6 : Int64) (0 : Int64)) h215 := ⟨Ep217, Er217, Ew217, F217_cpus, F217_times, F217_free, F217_head, F217_tail, F217_lastAt, F217_runs, F217_firstKnown, F217_watcher, F217_watchedAs, F217_changes, F217_merged, F217_gaveBack, F217_recent, Fn217, At217, Af217, Ar217, nt217, wl217, gp217, gt217, gf217, gr217, gu217⟩
         have nj233 : nn.toInt = 9 := by
          have r1 := rng32 nn
          have k2 : (2 : Int32).toInt = 2 := by decide
          have k3 : (3 : Int32).toInt = 3 := by decide
          have k4 : (4 : Int32).toInt = 4 := by decide
          have k5 : (5 : Int32).toInt = 5 := by decide
          have k6 : (6 : Int32).toInt = 6 := by decide
          have k7 : (7 : Int32).toInt = 7 := by decide
          have k8 : (8 : Int32).toInt = 8 := by decide
          have k9 : (9 : Int32).toInt = 9 := by decide
          have d0 : ¬ (nn.toInt < (2 : Int32).toInt) := mt Int32.lt_iff_toInt_lt.mpr c0
          have d1 : ¬ (nn.toInt < (3 : Int32).toInt) := mt Int32.lt_iff_toInt_lt.mpr c1
          have d2 : ¬ (nn.toInt < (4 : Int32).toInt) := mt Int32.lt_iff_toInt_lt.mpr c2
          have d3 : ¬ (nn.toInt < (5 : Int32).toInt) := mt Int32.lt_iff_toInt_lt.mpr c3
          have d4 : ¬ (nn.toInt < (6 : Int32).toInt) := mt Int32.lt_iff_toInt_lt.mpr c4
          have d5 : ¬ (nn.toInt < (7 : Int32).toInt) := mt Int32.lt_iff_toInt_lt.mpr c5
          have d6 : ¬ (nn.toInt < (8 : Int32).toInt) := mt Int32.lt_iff_toInt_lt.mpr c6
          have d7 : ¬ (nn.toInt < (9 : Int32).toInt) := mt Int32.lt_iff_toInt_lt.mpr c7
          omega
         have nl233 : nn = (9 : Int32) := Int32.toInt_inj.mp (nj233.trans (by decide))
         have hs233 : ((sn).toInt64).toInt = ((sn.toNatClampNeg : Nat) : Int) := (c_i2l sn).trans (o_nat sn rs0.1).symm
         have sb233 : sn.toNatClampNeg ≤ 9 := by have := o_nat sn rs0.1; omega
         have cl233 := o_cL_le LL215
         have Xo233 : Stand p l e room_1 s m #[(.long x), (.long y), (.long z), (.long frmL), (.long toL), (.int kq)] below meth c T215 _ 12 258 := X215.more (by omega) (by omega)
         obtain ⟨v234, T234, L234, hQ234, X234, st234⟩ := o_callV Xo233 hx hZ e215 hown (o_m hw 126 rfl) (o_m hw 127 rfl) (o_m hw 129 rfl) (o_m hw 128 rfl) (by decide) (b := pp) Ep217 (o_m hw 130 rfl) (o_m hw 9 rfl) (o_over l Z a0 hw n0 pp rc ru wa tm215 fr215 tl215 la215 LL215 ((((((((((0 : Int64) + (1 : Int64)) + (1 : Int64)) + (1 : Int64)) + (1 : Int64)) + (1 : Int64)) + (1 : Int64)) + (1 : Int64)) + (1 : Int64)) + (1 : Int64)) (0 : Int64) xs215 fs215 (o_put (o_put (o_put (o_put (o_put (o_put (o_put (o_put (o_put (fun _ => 0) (0 + 1) x0 x1 (0 : Int64)) (1 + 1) y0 y1 (0 : Int64)) (2 + 1) (0 : Int64) (1 : Int64) (0 : Int64)) (3 + 1) (-9223372036854775808 : Int64) (-9223372036854775807 : Int64) (0 : Int64)) (4 + 1) (9223372036854775806 : Int64) (9223372036854775807 : Int64) (0 : Int64)) (5 + 1) (-10 : Int64) (10 : Int64) (0 : Int64)) (6 + 1) (100 : Int64) (200 : Int64) (0 : Int64)) (7 + 1) (-200 : Int64) (-100 : Int64) (0 : Int64)) (8 + 1) (5 : Int64) (6 : Int64) (0 : Int64)) ((sn).toInt64) frmL toL 9 sn.toNatClampNeg h215 hP232 (by decide) hs233 sb233 (by decide)) (g := (o_f36 m 291 x y z frmL toL kq x0 x1 y0 y1 nn sn pp [(.long toL), (.long frmL), (.long (sn).toInt64), (.ref pp)])) rfl (by rw [hml]; rfl) rfl (argsL := [(.long (sn).toInt64), (.long frmL), (.long toL)]) (rest := []) rfl (lenOf o_pd10 rfl) rfl (hb hby at_291) (o_b rfl) (o_b rfl) (o_b rfl) (o_b rfl)
         obtain ⟨rfl, rfl, e234⟩ := hQ234
         rw [List.append_nil] at X234
         refine o_q T234 (o_f36 m 294 x y z frmL toL kq x0 x1 y0 y1 nn sn pp [(.int (o_co (o_put (o_put (o_put (o_put (o_put (o_put (o_put (o_put (o_put (fun _ => 0) (0 + 1) x0 x1 (0 : Int64)) (1 + 1) y0 y1 (0 : Int64)) (2 + 1) (0 : Int64) (1 : Int64) (0 : Int64)) (3 + 1) (-9223372036854775808 : Int64) (-9223372036854775807 : Int64) (0 : Int64)) (4 + 1) (9223372036854775806 : Int64) (9223372036854775807 : Int64) (0 : Int64)) (5 + 1) (-10 : Int64) (10 : Int64) (0 : Int64)) (6 + 1) (100 : Int64) (200 : Int64) (0 : Int64)) (7 + 1) (-200 : Int64) (-100 : Int64) (0 : Int64)) (8 + 1) (5 : Int64) (6 : Int64) (0 : Int64)) frmL toL 9 sn.toNatClampNeg))]) st234 ?_
         refine o_q T234 (o_f31 m 296 x y z frmL toL kq x0 x1 y0 y1 nn sn pp (o_co (o_put (o_put (o_put (o_put (o_put (o_put (o_put (o_put (o_put (fun _ => 0) (0 + 1) x0 x1 (0 : Int64)) (1 + 1) y0 y1 (0 : Int64)) (2 + 1) (0 : Int64) (1 : Int64) (0 : Int64)) (3 + 1) (-9223372036854775808 : Int64) (-9223372036854775807 : Int64) (0 : Int64)) (4 + 1) (9223372036854775806 : Int64) (9223372036854775807 : Int64) (0 : Int64)) (5 + 1) (-10 : Int64) (10 : Int64) (0 : Int64)) (6 + 1) (100 : Int64) (200 : Int64) (0 : Int64)) (7 + 1) (-200 : Int64) (-100 : Int64) (0 : Int64)) (8 + 1) (5 : Int64) (6 : Int64) (0 : Int64)) frmL toL 9 sn.toNatClampNeg) []) (fun _ k => XS.istore X234.here hx rfl (hb hby at_294) rfl (l' := (o_t31 x y z frmL toL kq x0 x1 y0 y1 nn sn pp (o_co (o_put (o_put (o_put (o_put (o_put (o_put (o_put (o_put (o_put (fun _ => 0) (0 + 1) x0 x1 (0 : Int64)) (1 + 1) y0 y1 (0 : Int64)) (2 + 1) (0 : Int64) (1 : Int64) (0 : Int64)) (3 + 1) (-9223372036854775808 : Int64) (-9223372036854775807 : Int64) (0 : Int64)) (4 + 1) (9223372036854775806 : Int64) (9223372036854775807 : Int64) (0 : Int64)) (5 + 1) (-10 : Int64) (10 : Int64) (0 : Int64)) (6 + 1) (100 : Int64) (200 : Int64) (0 : Int64)) (7 + 1) (-200 : Int64) (-100 : Int64) (0 : Int64)) (8 + 1) (5 : Int64) (6 : Int64) (0 : Int64)) frmL toL 9 sn.toNatClampNeg))) rfl k) ?_
         have hg : (o_co (o_put (o_put (o_put (o_put (o_put (o_put (o_put (o_put (o_put (fun _ => 0) (0 + 1) x0 x1 (0 : Int64)) (1 + 1) y0 y1 (0 : Int64)) (2 + 1) (0 : Int64) (1 : Int64) (0 : Int64)) (3 + 1) (-9223372036854775808 : Int64) (-9223372036854775807 : Int64) (0 : Int64)) (4 + 1) (9223372036854775806 : Int64) (9223372036854775807 : Int64) (0 : Int64)) (5 + 1) (-10 : Int64) (10 : Int64) (0 : Int64)) (6 + 1) (100 : Int64) (200 : Int64) (0 : Int64)) (7 + 1) (-200 : Int64) (-100 : Int64) (0 : Int64)) (8 + 1) (5 : Int64) (6 : Int64) (0 : Int64)) frmL toL 9 sn.toNatClampNeg) = o_w0 nn sn x0 x1 y0 y1 frmL toL := by rw [nl233]; exact o_fin9 sn ⟨rs0.1, by omega⟩ x0 x1 y0 y1 frmL toL
         exact o_J0 Z a0 hw n0 x y z frmL toL kq x0 x1 y0 y1 nn sn pp (o_co (o_put (o_put (o_put (o_put (o_put (o_put (o_put (o_put (o_put (fun _ => 0) (0 + 1) x0 x1 (0 : Int64)) (1 + 1) y0 y1 (0 : Int64)) (2 + 1) (0 : Int64) (1 : Int64) (0 : Int64)) (3 + 1) (-9223372036854775808 : Int64) (-9223372036854775807 : Int64) (0 : Int64)) (4 + 1) (9223372036854775806 : Int64) (9223372036854775807 : Int64) (0 : Int64)) (5 + 1) (-10 : Int64) (10 : Int64) (0 : Int64)) (6 + 1) (100 : Int64) (200 : Int64) (0 : Int64)) (7 + 1) (-200 : Int64) (-100 : Int64) (0 : Int64)) (8 + 1) (5 : Int64) (6 : Int64) (0 : Int64)) frmL toL 9 sn.toNatClampNeg) hx hby hml hZ hown hret hlk X234 e234 N_215 hg
theorem o_d1_0 : decode o_y19 0 = .ok (.lload_n 0, 1) := by decide +kernel
theorem o_d1_1 : decode o_y19 1 = .ok (.lload_n 2, 1) := by decide +kernel
theorem o_d1_2 : decode o_y19 2 = .ok (.lcmp, 1) := by decide +kernel
theorem o_d1_3 : decode o_y19 3 = .ok (.ifCond .gt 7, 3) := by decide +kernel
theorem o_d1_10 : decode o_y19 10 = .ok (.lload_n 2, 1) := by decide +kernel
theorem o_d1_11 : decode o_y19 11 = .ok (.lreturn, 1) := by decide +kernel
theorem o_d1_6 : decode o_y19 6 = .ok (.lload_n 0, 1) := by decide +kernel
theorem o_d1_7 : decode o_y19 7 = .ok (.goto 4, 3) := by decide +kernel
theorem o_pn1 : plainFor (⟨"java/lang/Math", "min", "(JJ)J"⟩ : MethodName) = true := Jvm.Free.JP.mathPlain rfl (by decide +kernel)
set_option maxRecDepth 65536 in
set_option maxHeartbeats 40000000 in
theorem o_k1_8 (l : Launch) (Z : State) (a0 : Array Value) (hw : ∀ d ∈ tables_1, d.before a0 Z = true) (p0 : Int64) (p1 : Int64) (h0 : Heap)  :
  o_C l (⟨"java/lang/Math", "min", "(JJ)J"⟩ : MethodName) o_y19 4 (some .long) (o_R 0 0 0 0) Z h0 #[(.long p0), (.long p1)] (o_P (some (if p1 < p0 then (.long p1) else (.long p0))) h0) := by
 refine o_body o_pn1 ?_
 intro p e s m below meth c s₁ hx hby hml hZ hown hnm hret hlk X0 e0
 refine o_cast (f' := (o_f37 m 0 p0 p1 [])) (by first | (simp [entryFrame, mkF, argsToLocals, Value.category, maxLocals]; done) | rfl) ?_
 refine o_q s₁ (o_f37 m 1 p0 p1 [(.long p0)]) (fun _ k => XS.lloadN X0.here hx rfl (hb hby o_d1_0) rfl k) ?_
 refine o_q s₁ (o_f37 m 2 p0 p1 [(.long p1), (.long p0)]) (fun _ k => XS.lloadN X0.here hx rfl (hb hby o_d1_1) rfl k) ?_
 refine o_q s₁ (o_f37 m 3 p0 p1 [(.int (lcmpW p0 p1))]) (fun _ k => XS.lcmp X0.here hx rfl (hb hby o_d1_2) rfl k) ?_
 by_cases c0 : p1 < p0
 ·refine o_q s₁ (o_f37 m 10 p0 p1 []) (fun _ k => XS.ifYes X0.here hx rfl (pc0 := 3) (pc' := 10) rfl (hb hby o_d1_3) rfl ((if0 _ _).trans (tlt ((lw_gt _ _).mpr c0)).2.2.1) (by decide) (by decide) k) ?_
  refine o_q s₁ (o_f37 m 11 p0 p1 [(.long p1)]) (fun _ k => XS.lloadN X0.here hx rfl (hb hby o_d1_10) rfl k) ?_
  exact o_retJ X0 hx hlk hret (hb hby o_d1_11) ⟨by simp only [if_pos c0], rfl, e0⟩ (by decide) (by decide)
 ·refine o_q s₁ (o_f37 m 6 p0 p1 []) (fun _ k => XS.ifNo X0.here hx rfl (hb hby o_d1_3) rfl ((if0 _ _).trans (flt (mt (lw_gt _ _).mp c0)).2.2.1) k) ?_
  refine o_q s₁ (o_f37 m 7 p0 p1 [(.long p0)]) (fun _ k => XS.lloadN X0.here hx rfl (hb hby o_d1_6) rfl k) ?_
  refine o_q s₁ (o_f37 m 11 p0 p1 [(.long p0)]) (fun _ k => XS.goto X0.here hx rfl (pc0 := 7) (pc' := 11) rfl (hb hby o_d1_7) (by decide) (by decide) k) ?_
  exact o_retJ X0 hx hlk hret (hb hby o_d1_11) ⟨by simp only [if_neg c0], rfl, e0⟩ (by decide) (by decide)
theorem o_pd8 : parseMethodDescriptor "(JJ)J" = some ⟨[.long, .long], some .long⟩ := by decide +kernel
theorem o_d2_0 : decode o_y20 0 = .ok (.lload_n 0, 1) := by decide +kernel
theorem o_d2_1 : decode o_y20 1 = .ok (.lload_n 2, 1) := by decide +kernel
theorem o_d2_2 : decode o_y20 2 = .ok (.lcmp, 1) := by decide +kernel
theorem o_d2_3 : decode o_y20 3 = .ok (.ifCond .lt 7, 3) := by decide +kernel
theorem o_d2_10 : decode o_y20 10 = .ok (.lload_n 2, 1) := by decide +kernel
theorem o_d2_11 : decode o_y20 11 = .ok (.lreturn, 1) := by decide +kernel
theorem o_d2_6 : decode o_y20 6 = .ok (.lload_n 0, 1) := by decide +kernel
theorem o_d2_7 : decode o_y20 7 = .ok (.goto 4, 3) := by decide +kernel
theorem o_pn2 : plainFor (⟨"java/lang/Math", "max", "(JJ)J"⟩ : MethodName) = true := Jvm.Free.JP.mathPlain rfl (by decide +kernel)
set_option maxRecDepth 65536 in
set_option maxHeartbeats 40000000 in
theorem o_k2_9 (l : Launch) (Z : State) (a0 : Array Value) (hw : ∀ d ∈ tables_1, d.before a0 Z = true) (p0 : Int64) (p1 : Int64) (h0 : Heap)  :
  o_C l (⟨"java/lang/Math", "max", "(JJ)J"⟩ : MethodName) o_y20 4 (some .long) (o_R 0 0 0 0) Z h0 #[(.long p0), (.long p1)] (o_P (some (if p0 < p1 then (.long p1) else (.long p0))) h0) := by
 refine o_body o_pn2 ?_
 intro p e s m below meth c s₁ hx hby hml hZ hown hnm hret hlk X0 e0
 refine o_cast (f' := (o_f37 m 0 p0 p1 [])) (by first | (simp [entryFrame, mkF, argsToLocals, Value.category, maxLocals]; done) | rfl) ?_
 refine o_q s₁ (o_f37 m 1 p0 p1 [(.long p0)]) (fun _ k => XS.lloadN X0.here hx rfl (hb hby o_d2_0) rfl k) ?_
 refine o_q s₁ (o_f37 m 2 p0 p1 [(.long p1), (.long p0)]) (fun _ k => XS.lloadN X0.here hx rfl (hb hby o_d2_1) rfl k) ?_
 refine o_q s₁ (o_f37 m 3 p0 p1 [(.int (lcmpW p0 p1))]) (fun _ k => XS.lcmp X0.here hx rfl (hb hby o_d2_2) rfl k) ?_
 by_cases c0 : p0 < p1
 ·refine o_q s₁ (o_f37 m 10 p0 p1 []) (fun _ k => XS.ifYes X0.here hx rfl (pc0 := 3) (pc' := 10) rfl (hb hby o_d2_3) rfl ((if0 _ _).trans (tlt ((lw_lt _ _).mpr c0)).1) (by decide) (by decide) k) ?_
  refine o_q s₁ (o_f37 m 11 p0 p1 [(.long p1)]) (fun _ k => XS.lloadN X0.here hx rfl (hb hby o_d2_10) rfl k) ?_
  exact o_retJ X0 hx hlk hret (hb hby o_d2_11) ⟨by simp only [if_pos c0], rfl, e0⟩ (by decide) (by decide)
 ·refine o_q s₁ (o_f37 m 6 p0 p1 []) (fun _ k => XS.ifNo X0.here hx rfl (hb hby o_d2_3) rfl ((if0 _ _).trans (flt (mt (lw_lt _ _).mp c0)).1) k) ?_
  refine o_q s₁ (o_f37 m 7 p0 p1 [(.long p0)]) (fun _ k => XS.lloadN X0.here hx rfl (hb hby o_d2_6) rfl k) ?_
  refine o_q s₁ (o_f37 m 11 p0 p1 [(.long p0)]) (fun _ k => XS.goto X0.here hx rfl (pc0 := 7) (pc' := 11) rfl (hb hby o_d2_7) (by decide) (by decide) k) ?_
  exact o_retJ X0 hx hlk hret (hb hby o_d2_11) ⟨by simp only [if_neg c0], rfl, e0⟩ (by decide) (by decide)
set_option maxRecDepth 65536 in
set_option maxHeartbeats 40000000 in
theorem o_L1 {p : Program} {l : Launch} {e : Env} {s : State} {m : MethodId} {below : List Frame} {meth : Method} {c : Code} (Z : State) (a0 : Array Value) (hw : ∀ d ∈ tables_1, d.before a0 Z = true) (n0 : Nat) (x y z frmL toL : Int64) (kq : Int32) (x0 x1 : Int64) (wa ni : Addr)
  (hx : p.tables.exec = Jvm.exec) (hby : c.code = code) (hml : c.maxLocals = maxLocals) (hZ : Z.Warmed39 s.vm) (hown : s.vm.findClass o_n5 = some m.cls) (hret : meth.sig.returnType = ret) (hlk : meth.locks = false) {T : State} {locs : List Loc} {hh : Heap} (X0 : Stand p l e room_1 s m #[(.long x), (.long y), (.long z), (.long frmL), (.long toL), (.int kq)] below meth c T locs 0 0) (e0 : T.heap = hh) (NL : Fr n0 locs) (hsz : n0 ≤ hh.size) (wl : wa < n0) (Ew0 : Exa Z hh wa o_n2) (Sn : Sta Z hh o_n1 "NO_INSTANTS" "[J" (.ref ni)) (Sw : Sta Z hh o_n1 "UNWATCHED" "Lcom/example/gapwright/gapwright/profile/CpuProfile$Watcher;" (.ref wa)) (hxx : x0 < x1) :
  o_G p e below s (fun v h L => v = some (.int (1 : Int32)) ∧ Fr n0 L) 32 448 T (o_f38 m 46 x y z frmL toL kq x0 x1 []) := by
 refine o_q T (o_f38 m 47 x y z frmL toL kq x0 x1 [(.long y)]) (fun _ k => XS.lloadN X0.here hx rfl (hb hby at_46) rfl k) ?_
 refine o_q T (o_f38 m 49 x y z frmL toL kq x0 x1 [(.long z), (.long y)]) (fun _ k => XS.lload X0.here hx rfl (hb hby at_47) rfl k) ?_
 obtain ⟨v1, T1, L1, hQ1, X1, st1⟩ := o_callS X0 hx hZ e0 hown (o_m hw 0 rfl) (o_m hw 1 rfl) (by decide) (o_m hw 3 rfl) (o_m hw 2 rfl) (o_k1_8 l Z a0 hw y z hh ) (g := (o_f38 m 49 x y z frmL toL kq x0 x1 [(.long z), (.long y)])) rfl (by rw [hml]; rfl) rfl (argsL := [(.long y), (.long z)]) (rest := []) rfl (lenOf o_pd8 rfl) rfl (hb hby at_49) (o_b rfl) (o_b rfl) (o_b rfl) (o_b rfl)
 obtain ⟨rfl, rfl, e1⟩ := hQ1
 rw [List.append_nil] at X1
 by_cases c0 : z < y
 ·rw [if_pos c0] at st1
  refine o_q T1 (o_f38 m 52 x y z frmL toL kq x0 x1 [(.long z)]) st1 ?_
  refine o_q T1 (o_f39 m 54 x y z frmL toL kq x0 x1 z []) (fun _ k => XS.lstore X1.here hx rfl (hb hby at_52) rfl (l' := (o_t39 x y z frmL toL kq x0 x1 z)) rfl k) ?_
  refine o_q T1 (o_f39 m 55 x y z frmL toL kq x0 x1 z [(.long y)]) (fun _ k => XS.lloadN X1.here hx rfl (hb hby at_54) rfl k) ?_
  refine o_q T1 (o_f39 m 57 x y z frmL toL kq x0 x1 z [(.long z), (.long y)]) (fun _ k => XS.lload X1.here hx rfl (hb hby at_55) rfl k) ?_
  obtain ⟨v2, T2, L2, hQ2, X2, st2⟩ := o_callS X1 hx hZ e1 hown (o_m hw 4 rfl) (o_m hw 5 rfl) (by decide) (o_m hw 6 rfl) (o_m hw 2 rfl) (o_k2_9 l Z a0 hw y z hh ) (g := (o_f39 m 57 x y z frmL toL kq x0 x1 z [(.long z), (.long y)])) rfl (by rw [hml]; rfl) rfl (argsL := [(.long y), (.long z)]) (rest := []) rfl (lenOf o_pd8 rfl) rfl (hb hby at_57) (o_b rfl) (o_b rfl) (o_b rfl) (o_b rfl)
  obtain ⟨rfl, rfl, e2⟩ := hQ2
  rw [List.append_nil] at X2
  by_cases c1 : y < z
  ·rw [if_pos c1] at st2
   refine o_q T2 (o_f39 m 60 x y z frmL toL kq x0 x1 z [(.long z)]) st2 ?_
   refine o_q T2 (o_f33 m 62 x y z frmL toL kq x0 x1 z z []) (fun _ k => XS.lstore X2.here hx rfl (hb hby at_60) rfl (l' := (o_t33 x y z frmL toL kq x0 x1 z z)) rfl k) ?_
   refine o_q T2 (o_f33 m 64 x y z frmL toL kq x0 x1 z z [(.long z)]) (fun _ k => XS.lload X2.here hx rfl (hb hby at_62) rfl k) ?_
   refine o_q T2 (o_f33 m 66 x y z frmL toL kq x0 x1 z z [(.long z), (.long z)]) (fun _ k => XS.lload X2.here hx rfl (hb hby at_64) rfl k) ?_
   refine o_q T2 (o_f33 m 67 x y z frmL toL kq x0 x1 z z [(.int (lcmpW z z))]) (fun _ k => XS.lcmp X2.here hx rfl (hb hby at_66) rfl k) ?_
   refine o_q T2 (o_f33 m 70 x y z frmL toL kq x0 x1 z z []) (fun _ k => XS.ifNo X2.here hx rfl (hb hby at_67) rfl ((if0 _ _).trans (teq ((lw_eq _ _).mpr (rfl : z = z))).2) k) ?_
   refine o_q T2 (o_f33 m 72 x y z frmL toL kq x0 x1 z z [(.long z)]) (fun _ k => XS.lload X2.here hx rfl (hb hby at_70) rfl k) ?_
   refine o_q T2 (o_f33 m 75 x y z frmL toL kq x0 x1 z z [(.long (9223372036854775807 : Int64)), (.long z)]) (fun _ k => X2.ldc2Long hx hown (mvT hZ (o_m hw 155 rfl)) (g := (o_f33 m 72 x y z frmL toL kq x0 x1 z z [(.long z)])) rfl (hb hby at_72) _ k) ?_
   refine o_q T2 (o_f33 m 76 x y z frmL toL kq x0 x1 z z [(.int (lcmpW z (9223372036854775807 : Int64)))]) (fun _ k => XS.lcmp X2.here hx rfl (hb hby at_75) rfl k) ?_
   by_cases c2 : z = (9223372036854775807 : Int64)
   ·refine o_q T2 (o_f33 m 79 x y z frmL toL kq x0 x1 z z []) (fun _ k => XS.ifNo X2.here hx rfl (hb hby at_76) rfl ((if0 _ _).trans (teq ((lw_eq _ _).mpr c2)).2) k) ?_
    refine o_q T2 (o_f33 m 81 x y z frmL toL kq x0 x1 z z [(.long z)]) (fun _ k => XS.lload X2.here hx rfl (hb hby at_79) rfl k) ?_
    refine o_q T2 (o_f33 m 82 x y z frmL toL kq x0 x1 z z [(.long (1 : Int64)), (.long z)]) (fun _ k => XS.lconst X2.here hx rfl (hb hby at_81) k) ?_
    refine o_q T2 (o_f33 m 83 x y z frmL toL kq x0 x1 z z [(.long (z - (1 : Int64)))]) (fun _ k => XS.lsub X2.here hx rfl (hb hby at_82) rfl k) ?_
    refine o_q T2 (o_f33 m 85 x y z frmL toL kq x0 x1 (z - (1 : Int64)) z []) (fun _ k => XS.lstore X2.here hx rfl (hb hby at_83) rfl (l' := (o_t33 x y z frmL toL kq x0 x1 (z - (1 : Int64)) z)) rfl k) ?_
    refine o_q T2 (o_f33 m 94 x y z frmL toL kq x0 x1 (z - (1 : Int64)) z []) (fun _ k => XS.goto X2.here hx rfl (pc0 := 85) (pc' := 94) rfl (hb hby at_85) (by decide) (by decide) k) ?_
    have o3 : (z - (1 : Int64)) < z := by
     have r1 := rng64 z
     have k2 : (1 : Int64).toInt = 1 := by decide
     have e3 := c_lsub (z) ((1 : Int64))
     have r3 := rng64 ((z - (1 : Int64)))
     rw [show (1 : Int64).toInt = 1 from by decide] at e3
     have r4 := rng64 y
     have k5 : (9223372036854775807 : Int64).toInt = 9223372036854775807 := by decide
     have d0 : z.toInt < y.toInt := Int64.lt_iff_toInt_lt.mp c0
     have d1 : y.toInt < z.toInt := Int64.lt_iff_toInt_lt.mp c1
     have d2 : z.toInt = (9223372036854775807 : Int64).toInt := congrArg Int64.toInt c2
     rw [Int64.lt_iff_toInt_lt]
     omega
    exact o_L2 Z a0 hw n0 x y z frmL toL kq x0 x1 (z - (1 : Int64)) z wa ni hx hby hml hZ hown hret hlk X2 e2 NL hsz wl Ew0 Sn Sw hxx o3
   ·refine o_q T2 (o_f33 m 88 x y z frmL toL kq x0 x1 z z []) (fun _ k => XS.ifYes X2.here hx rfl (pc0 := 76) (pc' := 88) rfl (hb hby at_76) rfl ((if0 _ _).trans (feq (mt (lw_eq _ _).mp c2)).2) (by decide) (by decide) k) ?_
    refine o_q T2 (o_f33 m 90 x y z frmL toL kq x0 x1 z z [(.long z)]) (fun _ k => XS.lload X2.here hx rfl (hb hby at_88) rfl k) ?_
    refine o_q T2 (o_f33 m 91 x y z frmL toL kq x0 x1 z z [(.long (1 : Int64)), (.long z)]) (fun _ k => XS.lconst X2.here hx rfl (hb hby at_90) k) ?_
    refine o_q T2 (o_f33 m 92 x y z frmL toL kq x0 x1 z z [(.long (z + (1 : Int64)))]) (fun _ k => XS.ladd X2.here hx rfl (hb hby at_91) rfl k) ?_
    refine o_q T2 (o_f33 m 94 x y z frmL toL kq x0 x1 z (z + (1 : Int64)) []) (fun _ k => XS.lstore X2.here hx rfl (hb hby at_92) rfl (l' := (o_t33 x y z frmL toL kq x0 x1 z (z + (1 : Int64)))) rfl k) ?_
    have o4 : z < (z + (1 : Int64)) := by
     have r1 := rng64 z
     have k2 : (1 : Int64).toInt = 1 := by decide
     have e3 := c_ladd (z) ((1 : Int64))
     have r3 := rng64 ((z + (1 : Int64)))
     rw [show (1 : Int64).toInt = 1 from by decide] at e3
     have r4 := rng64 y
     have k5 : (9223372036854775807 : Int64).toInt = 9223372036854775807 := by decide
     have d0 : z.toInt < y.toInt := Int64.lt_iff_toInt_lt.mp c0
     have d1 : y.toInt < z.toInt := Int64.lt_iff_toInt_lt.mp c1
     have d2 : ¬ (z.toInt = (9223372036854775807 : Int64).toInt) := fun q => c2 (Int64.toInt_inj.mp q)
     rw [Int64.lt_iff_toInt_lt]
     omega
    exact o_L2 Z a0 hw n0 x y z frmL toL kq x0 x1 z (z + (1 : Int64)) wa ni hx hby hml hZ hown hret hlk X2 e2 NL hsz wl Ew0 Sn Sw hxx o4
  ·rw [if_neg c1] at st2
   refine o_q T2 (o_f39 m 60 x y z frmL toL kq x0 x1 z [(.long y)]) st2 ?_
   refine o_q T2 (o_f33 m 62 x y z frmL toL kq x0 x1 z y []) (fun _ k => XS.lstore X2.here hx rfl (hb hby at_60) rfl (l' := (o_t33 x y z frmL toL kq x0 x1 z y)) rfl k) ?_
   refine o_q T2 (o_f33 m 64 x y z frmL toL kq x0 x1 z y [(.long z)]) (fun _ k => XS.lload X2.here hx rfl (hb hby at_62) rfl k) ?_
   refine o_q T2 (o_f33 m 66 x y z frmL toL kq x0 x1 z y [(.long y), (.long z)]) (fun _ k => XS.lload X2.here hx rfl (hb hby at_64) rfl k) ?_
   refine o_q T2 (o_f33 m 67 x y z frmL toL kq x0 x1 z y [(.int (lcmpW z y))]) (fun _ k => XS.lcmp X2.here hx rfl (hb hby at_66) rfl k) ?_
   by_cases c2 : z = y
   ·refine o_q T2 (o_f33 m 70 x y z frmL toL kq x0 x1 z y []) (fun _ k => XS.ifNo X2.here hx rfl (hb hby at_67) rfl ((if0 _ _).trans (teq ((lw_eq _ _).mpr c2)).2) k) ?_
    refine o_q T2 (o_f33 m 72 x y z frmL toL kq x0 x1 z y [(.long y)]) (fun _ k => XS.lload X2.here hx rfl (hb hby at_70) rfl k) ?_
    refine o_q T2 (o_f33 m 75 x y z frmL toL kq x0 x1 z y [(.long (9223372036854775807 : Int64)), (.long y)]) (fun _ k => X2.ldc2Long hx hown (mvT hZ (o_m hw 155 rfl)) (g := (o_f33 m 72 x y z frmL toL kq x0 x1 z y [(.long y)])) rfl (hb hby at_72) _ k) ?_
    refine o_q T2 (o_f33 m 76 x y z frmL toL kq x0 x1 z y [(.int (lcmpW y (9223372036854775807 : Int64)))]) (fun _ k => XS.lcmp X2.here hx rfl (hb hby at_75) rfl k) ?_
    by_cases c3 : y = (9223372036854775807 : Int64)
    ·refine o_q T2 (o_f33 m 79 x y z frmL toL kq x0 x1 z y []) (fun _ k => XS.ifNo X2.here hx rfl (hb hby at_76) rfl ((if0 _ _).trans (teq ((lw_eq _ _).mpr c3)).2) k) ?_
     refine o_q T2 (o_f33 m 81 x y z frmL toL kq x0 x1 z y [(.long y)]) (fun _ k => XS.lload X2.here hx rfl (hb hby at_79) rfl k) ?_
     refine o_q T2 (o_f33 m 82 x y z frmL toL kq x0 x1 z y [(.long (1 : Int64)), (.long y)]) (fun _ k => XS.lconst X2.here hx rfl (hb hby at_81) k) ?_
     refine o_q T2 (o_f33 m 83 x y z frmL toL kq x0 x1 z y [(.long (y - (1 : Int64)))]) (fun _ k => XS.lsub X2.here hx rfl (hb hby at_82) rfl k) ?_
     refine o_q T2 (o_f33 m 85 x y z frmL toL kq x0 x1 (y - (1 : Int64)) y []) (fun _ k => XS.lstore X2.here hx rfl (hb hby at_83) rfl (l' := (o_t33 x y z frmL toL kq x0 x1 (y - (1 : Int64)) y)) rfl k) ?_
     refine o_q T2 (o_f33 m 94 x y z frmL toL kq x0 x1 (y - (1 : Int64)) y []) (fun _ k => XS.goto X2.here hx rfl (pc0 := 85) (pc' := 94) rfl (hb hby at_85) (by decide) (by decide) k) ?_
     have o5 : (y - (1 : Int64)) < y := by
      have r1 := rng64 y
      have k2 : (1 : Int64).toInt = 1 := by decide
      have e3 := c_lsub (y) ((1 : Int64))
      have r3 := rng64 ((y - (1 : Int64)))
      rw [show (1 : Int64).toInt = 1 from by decide] at e3
      have r4 := rng64 z
      have k5 : (9223372036854775807 : Int64).toInt = 9223372036854775807 := by decide
      have d0 : z.toInt < y.toInt := Int64.lt_iff_toInt_lt.mp c0
      have d1 : ¬ (y.toInt < z.toInt) := mt Int64.lt_iff_toInt_lt.mpr c1
      have d2 : z.toInt = y.toInt := congrArg Int64.toInt c2
      have d3 : y.toInt = (9223372036854775807 : Int64).toInt := congrArg Int64.toInt c3
      rw [Int64.lt_iff_toInt_lt]
      omega
     exact o_L2 Z a0 hw n0 x y z frmL toL kq x0 x1 (y - (1 : Int64)) y wa ni hx hby hml hZ hown hret hlk X2 e2 NL hsz wl Ew0 Sn Sw hxx o5
    ·refine o_q T2 (o_f33 m 88 x y z frmL toL kq x0 x1 z y []) (fun _ k => XS.ifYes X2.here hx rfl (pc0 := 76) (pc' := 88) rfl (hb hby at_76) rfl ((if0 _ _).trans (feq (mt (lw_eq _ _).mp c3)).2) (by decide) (by decide) k) ?_
     refine o_q T2 (o_f33 m 90 x y z frmL toL kq x0 x1 z y [(.long z)]) (fun _ k => XS.lload X2.here hx rfl (hb hby at_88) rfl k) ?_
     refine o_q T2 (o_f33 m 91 x y z frmL toL kq x0 x1 z y [(.long (1 : Int64)), (.long z)]) (fun _ k => XS.lconst X2.here hx rfl (hb hby at_90) k) ?_
     refine o_q T2 (o_f33 m 92 x y z frmL toL kq x0 x1 z y [(.long (z + (1 : Int64)))]) (fun _ k => XS.ladd X2.here hx rfl (hb hby at_91) rfl k) ?_
     refine o_q T2 (o_f33 m 94 x y z frmL toL kq x0 x1 z (z + (1 : Int64)) []) (fun _ k => XS.lstore X2.here hx rfl (hb hby at_92) rfl (l' := (o_t33 x y z frmL toL kq x0 x1 z (z + (1 : Int64)))) rfl k) ?_
     have o6 : z < (z + (1 : Int64)) := by
      have r1 := rng64 z
      have k2 : (1 : Int64).toInt = 1 := by decide
      have e3 := c_ladd (z) ((1 : Int64))
      have r3 := rng64 ((z + (1 : Int64)))
      rw [show (1 : Int64).toInt = 1 from by decide] at e3
      have r4 := rng64 y
      have k5 : (9223372036854775807 : Int64).toInt = 9223372036854775807 := by decide
      have d0 : z.toInt < y.toInt := Int64.lt_iff_toInt_lt.mp c0
      have d1 : ¬ (y.toInt < z.toInt) := mt Int64.lt_iff_toInt_lt.mpr c1
      have d2 : z.toInt = y.toInt := congrArg Int64.toInt c2
      have d3 : ¬ (y.toInt = (9223372036854775807 : Int64).toInt) := fun q => c3 (Int64.toInt_inj.mp q)
      rw [Int64.lt_iff_toInt_lt]
      omega
     exact o_L2 Z a0 hw n0 x y z frmL toL kq x0 x1 z (z + (1 : Int64)) wa ni hx hby hml hZ hown hret hlk X2 e2 NL hsz wl Ew0 Sn Sw hxx o6
   ·refine o_q T2 (o_f33 m 94 x y z frmL toL kq x0 x1 z y []) (fun _ k => XS.ifYes X2.here hx rfl (pc0 := 67) (pc' := 94) rfl (hb hby at_67) rfl ((if0 _ _).trans (feq (mt (lw_eq _ _).mp c2)).2) (by decide) (by decide) k) ?_
    have o7 : z < y := by
     have r1 := rng64 z
     have r2 := rng64 y
     have d0 : z.toInt < y.toInt := Int64.lt_iff_toInt_lt.mp c0
     have d1 : ¬ (y.toInt < z.toInt) := mt Int64.lt_iff_toInt_lt.mpr c1
     have d2 : ¬ (z.toInt = y.toInt) := fun q => c2 (Int64.toInt_inj.mp q)
     rw [Int64.lt_iff_toInt_lt]
     omega
    exact o_L2 Z a0 hw n0 x y z frmL toL kq x0 x1 z y wa ni hx hby hml hZ hown hret hlk X2 e2 NL hsz wl Ew0 Sn Sw hxx o7
 ·rw [if_neg c0] at st1
  refine o_q T1 (o_f38 m 52 x y z frmL toL kq x0 x1 [(.long y)]) st1 ?_
  refine o_q T1 (o_f39 m 54 x y z frmL toL kq x0 x1 y []) (fun _ k => XS.lstore X1.here hx rfl (hb hby at_52) rfl (l' := (o_t39 x y z frmL toL kq x0 x1 y)) rfl k) ?_
  refine o_q T1 (o_f39 m 55 x y z frmL toL kq x0 x1 y [(.long y)]) (fun _ k => XS.lloadN X1.here hx rfl (hb hby at_54) rfl k) ?_
  refine o_q T1 (o_f39 m 57 x y z frmL toL kq x0 x1 y [(.long z), (.long y)]) (fun _ k => XS.lload X1.here hx rfl (hb hby at_55) rfl k) ?_
  obtain ⟨v8, T8, L8, hQ8, X8, st8⟩ := o_callS X1 hx hZ e1 hown (o_m hw 4 rfl) (o_m hw 5 rfl) (by decide) (o_m hw 6 rfl) (o_m hw 2 rfl) (o_k2_9 l Z a0 hw y z hh ) (g := (o_f39 m 57 x y z frmL toL kq x0 x1 y [(.long z), (.long y)])) rfl (by rw [hml]; rfl) rfl (argsL := [(.long y), (.long z)]) (rest := []) rfl (lenOf o_pd8 rfl) rfl (hb hby at_57) (o_b rfl) (o_b rfl) (o_b rfl) (o_b rfl)
  obtain ⟨rfl, rfl, e8⟩ := hQ8
  rw [List.append_nil] at X8
  by_cases c1 : y < z
  ·rw [if_pos c1] at st8
   refine o_q T8 (o_f39 m 60 x y z frmL toL kq x0 x1 y [(.long z)]) st8 ?_
   refine o_q T8 (o_f33 m 62 x y z frmL toL kq x0 x1 y z []) (fun _ k => XS.lstore X8.here hx rfl (hb hby at_60) rfl (l' := (o_t33 x y z frmL toL kq x0 x1 y z)) rfl k) ?_
   refine o_q T8 (o_f33 m 64 x y z frmL toL kq x0 x1 y z [(.long y)]) (fun _ k => XS.lload X8.here hx rfl (hb hby at_62) rfl k) ?_
   refine o_q T8 (o_f33 m 66 x y z frmL toL kq x0 x1 y z [(.long z), (.long y)]) (fun _ k => XS.lload X8.here hx rfl (hb hby at_64) rfl k) ?_
   refine o_q T8 (o_f33 m 67 x y z frmL toL kq x0 x1 y z [(.int (lcmpW y z))]) (fun _ k => XS.lcmp X8.here hx rfl (hb hby at_66) rfl k) ?_
   by_cases c2 : y = z
   ·refine o_q T8 (o_f33 m 70 x y z frmL toL kq x0 x1 y z []) (fun _ k => XS.ifNo X8.here hx rfl (hb hby at_67) rfl ((if0 _ _).trans (teq ((lw_eq _ _).mpr c2)).2) k) ?_
    refine o_q T8 (o_f33 m 72 x y z frmL toL kq x0 x1 y z [(.long z)]) (fun _ k => XS.lload X8.here hx rfl (hb hby at_70) rfl k) ?_
    refine o_q T8 (o_f33 m 75 x y z frmL toL kq x0 x1 y z [(.long (9223372036854775807 : Int64)), (.long z)]) (fun _ k => X8.ldc2Long hx hown (mvT hZ (o_m hw 155 rfl)) (g := (o_f33 m 72 x y z frmL toL kq x0 x1 y z [(.long z)])) rfl (hb hby at_72) _ k) ?_
    refine o_q T8 (o_f33 m 76 x y z frmL toL kq x0 x1 y z [(.int (lcmpW z (9223372036854775807 : Int64)))]) (fun _ k => XS.lcmp X8.here hx rfl (hb hby at_75) rfl k) ?_
    by_cases c3 : z = (9223372036854775807 : Int64)
    ·refine o_q T8 (o_f33 m 79 x y z frmL toL kq x0 x1 y z []) (fun _ k => XS.ifNo X8.here hx rfl (hb hby at_76) rfl ((if0 _ _).trans (teq ((lw_eq _ _).mpr c3)).2) k) ?_
     refine o_q T8 (o_f33 m 81 x y z frmL toL kq x0 x1 y z [(.long z)]) (fun _ k => XS.lload X8.here hx rfl (hb hby at_79) rfl k) ?_
     refine o_q T8 (o_f33 m 82 x y z frmL toL kq x0 x1 y z [(.long (1 : Int64)), (.long z)]) (fun _ k => XS.lconst X8.here hx rfl (hb hby at_81) k) ?_
     refine o_q T8 (o_f33 m 83 x y z frmL toL kq x0 x1 y z [(.long (z - (1 : Int64)))]) (fun _ k => XS.lsub X8.here hx rfl (hb hby at_82) rfl k) ?_
     refine o_q T8 (o_f33 m 85 x y z frmL toL kq x0 x1 (z - (1 : Int64)) z []) (fun _ k => XS.lstore X8.here hx rfl (hb hby at_83) rfl (l' := (o_t33 x y z frmL toL kq x0 x1 (z - (1 : Int64)) z)) rfl k) ?_
     refine o_q T8 (o_f33 m 94 x y z frmL toL kq x0 x1 (z - (1 : Int64)) z []) (fun _ k => XS.goto X8.here hx rfl (pc0 := 85) (pc' := 94) rfl (hb hby at_85) (by decide) (by decide) k) ?_
     have o9 : (z - (1 : Int64)) < z := by
      have r1 := rng64 z
      have k2 : (1 : Int64).toInt = 1 := by decide
      have e3 := c_lsub (z) ((1 : Int64))
      have r3 := rng64 ((z - (1 : Int64)))
      rw [show (1 : Int64).toInt = 1 from by decide] at e3
      have r4 := rng64 y
      have k5 : (9223372036854775807 : Int64).toInt = 9223372036854775807 := by decide
      have d0 : ¬ (z.toInt < y.toInt) := mt Int64.lt_iff_toInt_lt.mpr c0
      have d1 : y.toInt < z.toInt := Int64.lt_iff_toInt_lt.mp c1
      have d2 : y.toInt = z.toInt := congrArg Int64.toInt c2
      have d3 : z.toInt = (9223372036854775807 : Int64).toInt := congrArg Int64.toInt c3
      rw [Int64.lt_iff_toInt_lt]
      omega
     exact o_L2 Z a0 hw n0 x y z frmL toL kq x0 x1 (z - (1 : Int64)) z wa ni hx hby hml hZ hown hret hlk X8 e8 NL hsz wl Ew0 Sn Sw hxx o9
    ·refine o_q T8 (o_f33 m 88 x y z frmL toL kq x0 x1 y z []) (fun _ k => XS.ifYes X8.here hx rfl (pc0 := 76) (pc' := 88) rfl (hb hby at_76) rfl ((if0 _ _).trans (feq (mt (lw_eq _ _).mp c3)).2) (by decide) (by decide) k) ?_
     refine o_q T8 (o_f33 m 90 x y z frmL toL kq x0 x1 y z [(.long y)]) (fun _ k => XS.lload X8.here hx rfl (hb hby at_88) rfl k) ?_
     refine o_q T8 (o_f33 m 91 x y z frmL toL kq x0 x1 y z [(.long (1 : Int64)), (.long y)]) (fun _ k => XS.lconst X8.here hx rfl (hb hby at_90) k) ?_
     refine o_q T8 (o_f33 m 92 x y z frmL toL kq x0 x1 y z [(.long (y + (1 : Int64)))]) (fun _ k => XS.ladd X8.here hx rfl (hb hby at_91) rfl k) ?_
     refine o_q T8 (o_f33 m 94 x y z frmL toL kq x0 x1 y (y + (1 : Int64)) []) (fun _ k => XS.lstore X8.here hx rfl (hb hby at_92) rfl (l' := (o_t33 x y z frmL toL kq x0 x1 y (y + (1 : Int64)))) rfl k) ?_
     have o10 : y < (y + (1 : Int64)) := by
      have r1 := rng64 y
      have k2 : (1 : Int64).toInt = 1 := by decide
      have e3 := c_ladd (y) ((1 : Int64))
      have r3 := rng64 ((y + (1 : Int64)))
      rw [show (1 : Int64).toInt = 1 from by decide] at e3
      have r4 := rng64 z
      have k5 : (9223372036854775807 : Int64).toInt = 9223372036854775807 := by decide
      have d0 : ¬ (z.toInt < y.toInt) := mt Int64.lt_iff_toInt_lt.mpr c0
      have d1 : y.toInt < z.toInt := Int64.lt_iff_toInt_lt.mp c1
      have d2 : y.toInt = z.toInt := congrArg Int64.toInt c2
      have d3 : ¬ (z.toInt = (9223372036854775807 : Int64).toInt) := fun q => c3 (Int64.toInt_inj.mp q)
      rw [Int64.lt_iff_toInt_lt]
      omega
     exact o_L2 Z a0 hw n0 x y z frmL toL kq x0 x1 y (y + (1 : Int64)) wa ni hx hby hml hZ hown hret hlk X8 e8 NL hsz wl Ew0 Sn Sw hxx o10
   ·refine o_q T8 (o_f33 m 94 x y z frmL toL kq x0 x1 y z []) (fun _ k => XS.ifYes X8.here hx rfl (pc0 := 67) (pc' := 94) rfl (hb hby at_67) rfl ((if0 _ _).trans (feq (mt (lw_eq _ _).mp c2)).2) (by decide) (by decide) k) ?_
    have o11 : y < z := by
     have r1 := rng64 y
     have r2 := rng64 z
     have d0 : ¬ (z.toInt < y.toInt) := mt Int64.lt_iff_toInt_lt.mpr c0
     have d1 : y.toInt < z.toInt := Int64.lt_iff_toInt_lt.mp c1
     have d2 : ¬ (y.toInt = z.toInt) := fun q => c2 (Int64.toInt_inj.mp q)
     rw [Int64.lt_iff_toInt_lt]
     omega
    exact o_L2 Z a0 hw n0 x y z frmL toL kq x0 x1 y z wa ni hx hby hml hZ hown hret hlk X8 e8 NL hsz wl Ew0 Sn Sw hxx o11
  ·rw [if_neg c1] at st8
   refine o_q T8 (o_f39 m 60 x y z frmL toL kq x0 x1 y [(.long y)]) st8 ?_
   refine o_q T8 (o_f33 m 62 x y z frmL toL kq x0 x1 y y []) (fun _ k => XS.lstore X8.here hx rfl (hb hby at_60) rfl (l' := (o_t33 x y z frmL toL kq x0 x1 y y)) rfl k) ?_
   refine o_q T8 (o_f33 m 64 x y z frmL toL kq x0 x1 y y [(.long y)]) (fun _ k => XS.lload X8.here hx rfl (hb hby at_62) rfl k) ?_
   refine o_q T8 (o_f33 m 66 x y z frmL toL kq x0 x1 y y [(.long y), (.long y)]) (fun _ k => XS.lload X8.here hx rfl (hb hby at_64) rfl k) ?_
   refine o_q T8 (o_f33 m 67 x y z frmL toL kq x0 x1 y y [(.int (lcmpW y y))]) (fun _ k => XS.lcmp X8.here hx rfl (hb hby at_66) rfl k) ?_
   refine o_q T8 (o_f33 m 70 x y z frmL toL kq x0 x1 y y []) (fun _ k => XS.ifNo X8.here hx rfl (hb hby at_67) rfl ((if0 _ _).trans (teq ((lw_eq _ _).mpr (rfl : y = y))).2) k) ?_
   refine o_q T8 (o_f33 m 72 x y z frmL toL kq x0 x1 y y [(.long y)]) (fun _ k => XS.lload X8.here hx rfl (hb hby at_70) rfl k) ?_
   refine o_q T8 (o_f33 m 75 x y z frmL toL kq x0 x1 y y [(.long (9223372036854775807 : Int64)), (.long y)]) (fun _ k => X8.ldc2Long hx hown (mvT hZ (o_m hw 155 rfl)) (g := (o_f33 m 72 x y z frmL toL kq x0 x1 y y [(.long y)])) rfl (hb hby at_72) _ k) ?_
   refine o_q T8 (o_f33 m 76 x y z frmL toL kq x0 x1 y y [(.int (lcmpW y (9223372036854775807 : Int64)))]) (fun _ k => XS.lcmp X8.here hx rfl (hb hby at_75) rfl k) ?_
   by_cases c2 : y = (9223372036854775807 : Int64)
   ·refine o_q T8 (o_f33 m 79 x y z frmL toL kq x0 x1 y y []) (fun _ k => XS.ifNo X8.here hx rfl (hb hby at_76) rfl ((if0 _ _).trans (teq ((lw_eq _ _).mpr c2)).2) k) ?_
    refine o_q T8 (o_f33 m 81 x y z frmL toL kq x0 x1 y y [(.long y)]) (fun _ k => XS.lload X8.here hx rfl (hb hby at_79) rfl k) ?_
    refine o_q T8 (o_f33 m 82 x y z frmL toL kq x0 x1 y y [(.long (1 : Int64)), (.long y)]) (fun _ k => XS.lconst X8.here hx rfl (hb hby at_81) k) ?_
    refine o_q T8 (o_f33 m 83 x y z frmL toL kq x0 x1 y y [(.long (y - (1 : Int64)))]) (fun _ k => XS.lsub X8.here hx rfl (hb hby at_82) rfl k) ?_
    refine o_q T8 (o_f33 m 85 x y z frmL toL kq x0 x1 (y - (1 : Int64)) y []) (fun _ k => XS.lstore X8.here hx rfl (hb hby at_83) rfl (l' := (o_t33 x y z frmL toL kq x0 x1 (y - (1 : Int64)) y)) rfl k) ?_
    refine o_q T8 (o_f33 m 94 x y z frmL toL kq x0 x1 (y - (1 : Int64)) y []) (fun _ k => XS.goto X8.here hx rfl (pc0 := 85) (pc' := 94) rfl (hb hby at_85) (by decide) (by decide) k) ?_
    have o12 : (y - (1 : Int64)) < y := by
     have r1 := rng64 y
     have k2 : (1 : Int64).toInt = 1 := by decide
     have e3 := c_lsub (y) ((1 : Int64))
     have r3 := rng64 ((y - (1 : Int64)))
     rw [show (1 : Int64).toInt = 1 from by decide] at e3
     have r4 := rng64 z
     have k5 : (9223372036854775807 : Int64).toInt = 9223372036854775807 := by decide
     have d0 : ¬ (z.toInt < y.toInt) := mt Int64.lt_iff_toInt_lt.mpr c0
     have d1 : ¬ (y.toInt < z.toInt) := mt Int64.lt_iff_toInt_lt.mpr c1
     have d2 : y.toInt = (9223372036854775807 : Int64).toInt := congrArg Int64.toInt c2
     rw [Int64.lt_iff_toInt_lt]
     omega
    exact o_L2 Z a0 hw n0 x y z frmL toL kq x0 x1 (y - (1 : Int64)) y wa ni hx hby hml hZ hown hret hlk X8 e8 NL hsz wl Ew0 Sn Sw hxx o12
   ·refine o_q T8 (o_f33 m 88 x y z frmL toL kq x0 x1 y y []) (fun _ k => XS.ifYes X8.here hx rfl (pc0 := 76) (pc' := 88) rfl (hb hby at_76) rfl ((if0 _ _).trans (feq (mt (lw_eq _ _).mp c2)).2) (by decide) (by decide) k) ?_
    refine o_q T8 (o_f33 m 90 x y z frmL toL kq x0 x1 y y [(.long y)]) (fun _ k => XS.lload X8.here hx rfl (hb hby at_88) rfl k) ?_
    refine o_q T8 (o_f33 m 91 x y z frmL toL kq x0 x1 y y [(.long (1 : Int64)), (.long y)]) (fun _ k => XS.lconst X8.here hx rfl (hb hby at_90) k) ?_
    refine o_q T8 (o_f33 m 92 x y z frmL toL kq x0 x1 y y [(.long (y + (1 : Int64)))]) (fun _ k => XS.ladd X8.here hx rfl (hb hby at_91) rfl k) ?_
    refine o_q T8 (o_f33 m 94 x y z frmL toL kq x0 x1 y (y + (1 : Int64)) []) (fun _ k => XS.lstore X8.here hx rfl (hb hby at_92) rfl (l' := (o_t33 x y z frmL toL kq x0 x1 y (y + (1 : Int64)))) rfl k) ?_
    have o13 : y < (y + (1 : Int64)) := by
     have r1 := rng64 y
     have k2 : (1 : Int64).toInt = 1 := by decide
     have e3 := c_ladd (y) ((1 : Int64))
     have r3 := rng64 ((y + (1 : Int64)))
     rw [show (1 : Int64).toInt = 1 from by decide] at e3
     have r4 := rng64 z
     have k5 : (9223372036854775807 : Int64).toInt = 9223372036854775807 := by decide
     have d0 : ¬ (z.toInt < y.toInt) := mt Int64.lt_iff_toInt_lt.mpr c0
     have d1 : ¬ (y.toInt < z.toInt) := mt Int64.lt_iff_toInt_lt.mpr c1
     have d2 : ¬ (y.toInt = (9223372036854775807 : Int64).toInt) := fun q => c2 (Int64.toInt_inj.mp q)
     rw [Int64.lt_iff_toInt_lt]
     omega
    exact o_L2 Z a0 hw n0 x y z frmL toL kq x0 x1 y (y + (1 : Int64)) wa ni hx hby hml hZ hown hret hlk X8 e8 NL hsz wl Ew0 Sn Sw hxx o13
theorem o_pn0 : plainFor (⟨o_n5, "law", "(JJJJJI)Z"⟩ : MethodName) = true := plainFor_of_name (by first | (simp [plainName, overriddenIn]; done) | decide +kernel)
set_option maxRecDepth 65536 in
set_option maxHeartbeats 40000000 in
theorem o_rm0 (l : Launch) (Z : State) (a0 : Array Value) (hw : ∀ d ∈ tables_1, d.before a0 Z = true) (ws : List Jvm.Cond) (q0 : Int64) (q1 : Int64) (q2 : Int64) (q3 : Int64) (q4 : Int64) (kq : Int32) (wa ni : Addr) (h0 : Heap) (wl : wa < h0.size) (Ew0 : Exa Z h0 wa o_n2) (Sn : Sta Z h0 o_n1 "NO_INSTANTS" "[J" (.ref ni)) (Sw : Sta Z h0 o_n1 "UNWATCHED" "Lcom/example/gapwright/gapwright/profile/CpuProfile$Watcher;" (.ref wa)) :
  o_C0 l x code maxLocals ret ws room_1 Z h0 #[(.long q0), (.long q1), (.long q2), (.long q3), (.long q4), (.int kq)] (fun v h L => v = some (.int (1 : Int32)) ∧ Fr h0.size L) 32 448 := by
 refine o_body o_pn0 ?_
 intro p e s m below meth c s₁ hx hby hml hZ hown hnm hret hlk X0 e0
 refine o_cast (f' := (o_f40 m 0 q0 q1 q2 q3 q4 kq [])) (by first | (simp [entryFrame, mkF, argsToLocals, Value.category, maxLocals]; done) | rfl) ?_
 refine o_q s₁ (o_f40 m 1 q0 q1 q2 q3 q4 kq [(.long q0)]) (fun _ k => XS.lloadN X0.here hx rfl (hb hby at_0) rfl k) ?_
 refine o_q s₁ (o_f40 m 2 q0 q1 q2 q3 q4 kq [(.long q1), (.long q0)]) (fun _ k => XS.lloadN X0.here hx rfl (hb hby at_1) rfl k) ?_
 obtain ⟨v1, T1, L1, hQ1, X1, st1⟩ := o_callS X0 hx hZ e0 hown (o_m hw 0 rfl) (o_m hw 1 rfl) (by decide) (o_m hw 3 rfl) (o_m hw 2 rfl) (o_k1_8 l Z a0 hw q0 q1 h0 ) (g := (o_f40 m 2 q0 q1 q2 q3 q4 kq [(.long q1), (.long q0)])) rfl (by rw [hml]; rfl) rfl (argsL := [(.long q0), (.long q1)]) (rest := []) rfl (lenOf o_pd8 rfl) rfl (hb hby at_2) (o_b rfl) (o_b rfl) (o_b rfl) (o_b rfl)
 obtain ⟨rfl, rfl, e1⟩ := hQ1
 rw [List.append_nil] at X1
 by_cases c0 : q1 < q0
 ·rw [if_pos c0] at st1
  refine o_q T1 (o_f40 m 5 q0 q1 q2 q3 q4 kq [(.long q1)]) st1 ?_
  refine o_q T1 (o_f41 m 7 q0 q1 q2 q3 q4 kq q1 []) (fun _ k => XS.lstore X1.here hx rfl (hb hby at_5) rfl (l' := (o_t41 q0 q1 q2 q3 q4 kq q1)) rfl k) ?_
  refine o_q T1 (o_f41 m 8 q0 q1 q2 q3 q4 kq q1 [(.long q0)]) (fun _ k => XS.lloadN X1.here hx rfl (hb hby at_7) rfl k) ?_
  refine o_q T1 (o_f41 m 9 q0 q1 q2 q3 q4 kq q1 [(.long q1), (.long q0)]) (fun _ k => XS.lloadN X1.here hx rfl (hb hby at_8) rfl k) ?_
  obtain ⟨v2, T2, L2, hQ2, X2, st2⟩ := o_callS X1 hx hZ e1 hown (o_m hw 4 rfl) (o_m hw 5 rfl) (by decide) (o_m hw 6 rfl) (o_m hw 2 rfl) (o_k2_9 l Z a0 hw q0 q1 h0 ) (g := (o_f41 m 9 q0 q1 q2 q3 q4 kq q1 [(.long q1), (.long q0)])) rfl (by rw [hml]; rfl) rfl (argsL := [(.long q0), (.long q1)]) (rest := []) rfl (lenOf o_pd8 rfl) rfl (hb hby at_9) (o_b rfl) (o_b rfl) (o_b rfl) (o_b rfl)
  obtain ⟨rfl, rfl, e2⟩ := hQ2
  rw [List.append_nil] at X2
  by_cases c1 : q0 < q1
  ·rw [if_pos c1] at st2
   refine o_q T2 (o_f41 m 12 q0 q1 q2 q3 q4 kq q1 [(.long q1)]) st2 ?_
   refine o_q T2 (o_f38 m 14 q0 q1 q2 q3 q4 kq q1 q1 []) (fun _ k => XS.lstore X2.here hx rfl (hb hby at_12) rfl (l' := (o_t38 q0 q1 q2 q3 q4 kq q1 q1)) rfl k) ?_
   refine o_q T2 (o_f38 m 16 q0 q1 q2 q3 q4 kq q1 q1 [(.long q1)]) (fun _ k => XS.lload X2.here hx rfl (hb hby at_14) rfl k) ?_
   refine o_q T2 (o_f38 m 18 q0 q1 q2 q3 q4 kq q1 q1 [(.long q1), (.long q1)]) (fun _ k => XS.lload X2.here hx rfl (hb hby at_16) rfl k) ?_
   refine o_q T2 (o_f38 m 19 q0 q1 q2 q3 q4 kq q1 q1 [(.int (lcmpW q1 q1))]) (fun _ k => XS.lcmp X2.here hx rfl (hb hby at_18) rfl k) ?_
   refine o_q T2 (o_f38 m 22 q0 q1 q2 q3 q4 kq q1 q1 []) (fun _ k => XS.ifNo X2.here hx rfl (hb hby at_19) rfl ((if0 _ _).trans (teq ((lw_eq _ _).mpr (rfl : q1 = q1))).2) k) ?_
   refine o_q T2 (o_f38 m 24 q0 q1 q2 q3 q4 kq q1 q1 [(.long q1)]) (fun _ k => XS.lload X2.here hx rfl (hb hby at_22) rfl k) ?_
   refine o_q T2 (o_f38 m 27 q0 q1 q2 q3 q4 kq q1 q1 [(.long (9223372036854775807 : Int64)), (.long q1)]) (fun _ k => X2.ldc2Long hx hown (mvT hZ (o_m hw 155 rfl)) (g := (o_f38 m 24 q0 q1 q2 q3 q4 kq q1 q1 [(.long q1)])) rfl (hb hby at_24) _ k) ?_
   refine o_q T2 (o_f38 m 28 q0 q1 q2 q3 q4 kq q1 q1 [(.int (lcmpW q1 (9223372036854775807 : Int64)))]) (fun _ k => XS.lcmp X2.here hx rfl (hb hby at_27) rfl k) ?_
   by_cases c2 : q1 = (9223372036854775807 : Int64)
   ·refine o_q T2 (o_f38 m 31 q0 q1 q2 q3 q4 kq q1 q1 []) (fun _ k => XS.ifNo X2.here hx rfl (hb hby at_28) rfl ((if0 _ _).trans (teq ((lw_eq _ _).mpr c2)).2) k) ?_
    refine o_q T2 (o_f38 m 33 q0 q1 q2 q3 q4 kq q1 q1 [(.long q1)]) (fun _ k => XS.lload X2.here hx rfl (hb hby at_31) rfl k) ?_
    refine o_q T2 (o_f38 m 34 q0 q1 q2 q3 q4 kq q1 q1 [(.long (1 : Int64)), (.long q1)]) (fun _ k => XS.lconst X2.here hx rfl (hb hby at_33) k) ?_
    refine o_q T2 (o_f38 m 35 q0 q1 q2 q3 q4 kq q1 q1 [(.long (q1 - (1 : Int64)))]) (fun _ k => XS.lsub X2.here hx rfl (hb hby at_34) rfl k) ?_
    refine o_q T2 (o_f38 m 37 q0 q1 q2 q3 q4 kq (q1 - (1 : Int64)) q1 []) (fun _ k => XS.lstore X2.here hx rfl (hb hby at_35) rfl (l' := (o_t38 q0 q1 q2 q3 q4 kq (q1 - (1 : Int64)) q1)) rfl k) ?_
    refine o_q T2 (o_f38 m 46 q0 q1 q2 q3 q4 kq (q1 - (1 : Int64)) q1 []) (fun _ k => XS.goto X2.here hx rfl (pc0 := 37) (pc' := 46) rfl (hb hby at_37) (by decide) (by decide) k) ?_
    have o3 : (q1 - (1 : Int64)) < q1 := by
     have r1 := rng64 q1
     have k2 : (1 : Int64).toInt = 1 := by decide
     have e3 := c_lsub (q1) ((1 : Int64))
     have r3 := rng64 ((q1 - (1 : Int64)))
     rw [show (1 : Int64).toInt = 1 from by decide] at e3
     have r4 := rng64 q0
     have k5 : (9223372036854775807 : Int64).toInt = 9223372036854775807 := by decide
     have d0 : q1.toInt < q0.toInt := Int64.lt_iff_toInt_lt.mp c0
     have d1 : q0.toInt < q1.toInt := Int64.lt_iff_toInt_lt.mp c1
     have d2 : q1.toInt = (9223372036854775807 : Int64).toInt := congrArg Int64.toInt c2
     rw [Int64.lt_iff_toInt_lt]
     omega
    exact o_L1 Z a0 hw h0.size q0 q1 q2 q3 q4 kq (q1 - (1 : Int64)) q1 wa ni hx hby hml hZ hown hret hlk X2 e2 (Fr.nil _) (Nat.le_refl _) wl Ew0 Sn Sw o3
   ·refine o_q T2 (o_f38 m 40 q0 q1 q2 q3 q4 kq q1 q1 []) (fun _ k => XS.ifYes X2.here hx rfl (pc0 := 28) (pc' := 40) rfl (hb hby at_28) rfl ((if0 _ _).trans (feq (mt (lw_eq _ _).mp c2)).2) (by decide) (by decide) k) ?_
    refine o_q T2 (o_f38 m 42 q0 q1 q2 q3 q4 kq q1 q1 [(.long q1)]) (fun _ k => XS.lload X2.here hx rfl (hb hby at_40) rfl k) ?_
    refine o_q T2 (o_f38 m 43 q0 q1 q2 q3 q4 kq q1 q1 [(.long (1 : Int64)), (.long q1)]) (fun _ k => XS.lconst X2.here hx rfl (hb hby at_42) k) ?_
    refine o_q T2 (o_f38 m 44 q0 q1 q2 q3 q4 kq q1 q1 [(.long (q1 + (1 : Int64)))]) (fun _ k => XS.ladd X2.here hx rfl (hb hby at_43) rfl k) ?_
    refine o_q T2 (o_f38 m 46 q0 q1 q2 q3 q4 kq q1 (q1 + (1 : Int64)) []) (fun _ k => XS.lstore X2.here hx rfl (hb hby at_44) rfl (l' := (o_t38 q0 q1 q2 q3 q4 kq q1 (q1 + (1 : Int64)))) rfl k) ?_
    have o4 : q1 < (q1 + (1 : Int64)) := by
     have r1 := rng64 q1
     have k2 : (1 : Int64).toInt = 1 := by decide
     have e3 := c_ladd (q1) ((1 : Int64))
     have r3 := rng64 ((q1 + (1 : Int64)))
     rw [show (1 : Int64).toInt = 1 from by decide] at e3
     have r4 := rng64 q0
     have k5 : (9223372036854775807 : Int64).toInt = 9223372036854775807 := by decide
     have d0 : q1.toInt < q0.toInt := Int64.lt_iff_toInt_lt.mp c0
     have d1 : q0.toInt < q1.toInt := Int64.lt_iff_toInt_lt.mp c1
     have d2 : ¬ (q1.toInt = (9223372036854775807 : Int64).toInt) := fun q => c2 (Int64.toInt_inj.mp q)
     rw [Int64.lt_iff_toInt_lt]
     omega
    exact o_L1 Z a0 hw h0.size q0 q1 q2 q3 q4 kq q1 (q1 + (1 : Int64)) wa ni hx hby hml hZ hown hret hlk X2 e2 (Fr.nil _) (Nat.le_refl _) wl Ew0 Sn Sw o4
  ·rw [if_neg c1] at st2
   refine o_q T2 (o_f41 m 12 q0 q1 q2 q3 q4 kq q1 [(.long q0)]) st2 ?_
   refine o_q T2 (o_f38 m 14 q0 q1 q2 q3 q4 kq q1 q0 []) (fun _ k => XS.lstore X2.here hx rfl (hb hby at_12) rfl (l' := (o_t38 q0 q1 q2 q3 q4 kq q1 q0)) rfl k) ?_
   refine o_q T2 (o_f38 m 16 q0 q1 q2 q3 q4 kq q1 q0 [(.long q1)]) (fun _ k => XS.lload X2.here hx rfl (hb hby at_14) rfl k) ?_
   refine o_q T2 (o_f38 m 18 q0 q1 q2 q3 q4 kq q1 q0 [(.long q0), (.long q1)]) (fun _ k => XS.lload X2.here hx rfl (hb hby at_16) rfl k) ?_
   refine o_q T2 (o_f38 m 19 q0 q1 q2 q3 q4 kq q1 q0 [(.int (lcmpW q1 q0))]) (fun _ k => XS.lcmp X2.here hx rfl (hb hby at_18) rfl k) ?_
   by_cases c2 : q1 = q0
   ·refine o_q T2 (o_f38 m 22 q0 q1 q2 q3 q4 kq q1 q0 []) (fun _ k => XS.ifNo X2.here hx rfl (hb hby at_19) rfl ((if0 _ _).trans (teq ((lw_eq _ _).mpr c2)).2) k) ?_
    refine o_q T2 (o_f38 m 24 q0 q1 q2 q3 q4 kq q1 q0 [(.long q0)]) (fun _ k => XS.lload X2.here hx rfl (hb hby at_22) rfl k) ?_
    refine o_q T2 (o_f38 m 27 q0 q1 q2 q3 q4 kq q1 q0 [(.long (9223372036854775807 : Int64)), (.long q0)]) (fun _ k => X2.ldc2Long hx hown (mvT hZ (o_m hw 155 rfl)) (g := (o_f38 m 24 q0 q1 q2 q3 q4 kq q1 q0 [(.long q0)])) rfl (hb hby at_24) _ k) ?_
    refine o_q T2 (o_f38 m 28 q0 q1 q2 q3 q4 kq q1 q0 [(.int (lcmpW q0 (9223372036854775807 : Int64)))]) (fun _ k => XS.lcmp X2.here hx rfl (hb hby at_27) rfl k) ?_
    by_cases c3 : q0 = (9223372036854775807 : Int64)
    ·refine o_q T2 (o_f38 m 31 q0 q1 q2 q3 q4 kq q1 q0 []) (fun _ k => XS.ifNo X2.here hx rfl (hb hby at_28) rfl ((if0 _ _).trans (teq ((lw_eq _ _).mpr c3)).2) k) ?_
     refine o_q T2 (o_f38 m 33 q0 q1 q2 q3 q4 kq q1 q0 [(.long q0)]) (fun _ k => XS.lload X2.here hx rfl (hb hby at_31) rfl k) ?_
     refine o_q T2 (o_f38 m 34 q0 q1 q2 q3 q4 kq q1 q0 [(.long (1 : Int64)), (.long q0)]) (fun _ k => XS.lconst X2.here hx rfl (hb hby at_33) k) ?_
     refine o_q T2 (o_f38 m 35 q0 q1 q2 q3 q4 kq q1 q0 [(.long (q0 - (1 : Int64)))]) (fun _ k => XS.lsub X2.here hx rfl (hb hby at_34) rfl k) ?_
     refine o_q T2 (o_f38 m 37 q0 q1 q2 q3 q4 kq (q0 - (1 : Int64)) q0 []) (fun _ k => XS.lstore X2.here hx rfl (hb hby at_35) rfl (l' := (o_t38 q0 q1 q2 q3 q4 kq (q0 - (1 : Int64)) q0)) rfl k) ?_
     refine o_q T2 (o_f38 m 46 q0 q1 q2 q3 q4 kq (q0 - (1 : Int64)) q0 []) (fun _ k => XS.goto X2.here hx rfl (pc0 := 37) (pc' := 46) rfl (hb hby at_37) (by decide) (by decide) k) ?_
     have o5 : (q0 - (1 : Int64)) < q0 := by
      have r1 := rng64 q0
      have k2 : (1 : Int64).toInt = 1 := by decide
      have e3 := c_lsub (q0) ((1 : Int64))
      have r3 := rng64 ((q0 - (1 : Int64)))
      rw [show (1 : Int64).toInt = 1 from by decide] at e3
      have r4 := rng64 q1
      have k5 : (9223372036854775807 : Int64).toInt = 9223372036854775807 := by decide
      have d0 : q1.toInt < q0.toInt := Int64.lt_iff_toInt_lt.mp c0
      have d1 : ¬ (q0.toInt < q1.toInt) := mt Int64.lt_iff_toInt_lt.mpr c1
      have d2 : q1.toInt = q0.toInt := congrArg Int64.toInt c2
      have d3 : q0.toInt = (9223372036854775807 : Int64).toInt := congrArg Int64.toInt c3
      rw [Int64.lt_iff_toInt_lt]
      omega
     exact o_L1 Z a0 hw h0.size q0 q1 q2 q3 q4 kq (q0 - (1 : Int64)) q0 wa ni hx hby hml hZ hown hret hlk X2 e2 (Fr.nil _) (Nat.le_refl _) wl Ew0 Sn Sw o5
    ·refine o_q T2 (o_f38 m 40 q0 q1 q2 q3 q4 kq q1 q0 []) (fun _ k => XS.ifYes X2.here hx rfl (pc0 := 28) (pc' := 40) rfl (hb hby at_28) rfl ((if0 _ _).trans (feq (mt (lw_eq _ _).mp c3)).2) (by decide) (by decide) k) ?_
     refine o_q T2 (o_f38 m 42 q0 q1 q2 q3 q4 kq q1 q0 [(.long q1)]) (fun _ k => XS.lload X2.here hx rfl (hb hby at_40) rfl k) ?_
     refine o_q T2 (o_f38 m 43 q0 q1 q2 q3 q4 kq q1 q0 [(.long (1 : Int64)), (.long q1)]) (fun _ k => XS.lconst X2.here hx rfl (hb hby at_42) k) ?_
     refine o_q T2 (o_f38 m 44 q0 q1 q2 q3 q4 kq q1 q0 [(.long (q1 + (1 : Int64)))]) (fun _ k => XS.ladd X2.here hx rfl (hb hby at_43) rfl k) ?_
     refine o_q T2 (o_f38 m 46 q0 q1 q2 q3 q4 kq q1 (q1 + (1 : Int64)) []) (fun _ k => XS.lstore X2.here hx rfl (hb hby at_44) rfl (l' := (o_t38 q0 q1 q2 q3 q4 kq q1 (q1 + (1 : Int64)))) rfl k) ?_
     have o6 : q1 < (q1 + (1 : Int64)) := by
      have r1 := rng64 q1
      have k2 : (1 : Int64).toInt = 1 := by decide
      have e3 := c_ladd (q1) ((1 : Int64))
      have r3 := rng64 ((q1 + (1 : Int64)))
      rw [show (1 : Int64).toInt = 1 from by decide] at e3
      have r4 := rng64 q0
      have k5 : (9223372036854775807 : Int64).toInt = 9223372036854775807 := by decide
      have d0 : q1.toInt < q0.toInt := Int64.lt_iff_toInt_lt.mp c0
      have d1 : ¬ (q0.toInt < q1.toInt) := mt Int64.lt_iff_toInt_lt.mpr c1
      have d2 : q1.toInt = q0.toInt := congrArg Int64.toInt c2
      have d3 : ¬ (q0.toInt = (9223372036854775807 : Int64).toInt) := fun q => c3 (Int64.toInt_inj.mp q)
      rw [Int64.lt_iff_toInt_lt]
      omega
     exact o_L1 Z a0 hw h0.size q0 q1 q2 q3 q4 kq q1 (q1 + (1 : Int64)) wa ni hx hby hml hZ hown hret hlk X2 e2 (Fr.nil _) (Nat.le_refl _) wl Ew0 Sn Sw o6
   ·refine o_q T2 (o_f38 m 46 q0 q1 q2 q3 q4 kq q1 q0 []) (fun _ k => XS.ifYes X2.here hx rfl (pc0 := 19) (pc' := 46) rfl (hb hby at_19) rfl ((if0 _ _).trans (feq (mt (lw_eq _ _).mp c2)).2) (by decide) (by decide) k) ?_
    have o7 : q1 < q0 := by
     have r1 := rng64 q1
     have r2 := rng64 q0
     have d0 : q1.toInt < q0.toInt := Int64.lt_iff_toInt_lt.mp c0
     have d1 : ¬ (q0.toInt < q1.toInt) := mt Int64.lt_iff_toInt_lt.mpr c1
     have d2 : ¬ (q1.toInt = q0.toInt) := fun q => c2 (Int64.toInt_inj.mp q)
     rw [Int64.lt_iff_toInt_lt]
     omega
    exact o_L1 Z a0 hw h0.size q0 q1 q2 q3 q4 kq q1 q0 wa ni hx hby hml hZ hown hret hlk X2 e2 (Fr.nil _) (Nat.le_refl _) wl Ew0 Sn Sw o7
 ·rw [if_neg c0] at st1
  refine o_q T1 (o_f40 m 5 q0 q1 q2 q3 q4 kq [(.long q0)]) st1 ?_
  refine o_q T1 (o_f41 m 7 q0 q1 q2 q3 q4 kq q0 []) (fun _ k => XS.lstore X1.here hx rfl (hb hby at_5) rfl (l' := (o_t41 q0 q1 q2 q3 q4 kq q0)) rfl k) ?_
  refine o_q T1 (o_f41 m 8 q0 q1 q2 q3 q4 kq q0 [(.long q0)]) (fun _ k => XS.lloadN X1.here hx rfl (hb hby at_7) rfl k) ?_
  refine o_q T1 (o_f41 m 9 q0 q1 q2 q3 q4 kq q0 [(.long q1), (.long q0)]) (fun _ k => XS.lloadN X1.here hx rfl (hb hby at_8) rfl k) ?_
  obtain ⟨v8, T8, L8, hQ8, X8, st8⟩ := o_callS X1 hx hZ e1 hown (o_m hw 4 rfl) (o_m hw 5 rfl) (by decide) (o_m hw 6 rfl) (o_m hw 2 rfl) (o_k2_9 l Z a0 hw q0 q1 h0 ) (g := (o_f41 m 9 q0 q1 q2 q3 q4 kq q0 [(.long q1), (.long q0)])) rfl (by rw [hml]; rfl) rfl (argsL := [(.long q0), (.long q1)]) (rest := []) rfl (lenOf o_pd8 rfl) rfl (hb hby at_9) (o_b rfl) (o_b rfl) (o_b rfl) (o_b rfl)
  obtain ⟨rfl, rfl, e8⟩ := hQ8
  rw [List.append_nil] at X8
  by_cases c1 : q0 < q1
  ·rw [if_pos c1] at st8
   refine o_q T8 (o_f41 m 12 q0 q1 q2 q3 q4 kq q0 [(.long q1)]) st8 ?_
   refine o_q T8 (o_f38 m 14 q0 q1 q2 q3 q4 kq q0 q1 []) (fun _ k => XS.lstore X8.here hx rfl (hb hby at_12) rfl (l' := (o_t38 q0 q1 q2 q3 q4 kq q0 q1)) rfl k) ?_
   refine o_q T8 (o_f38 m 16 q0 q1 q2 q3 q4 kq q0 q1 [(.long q0)]) (fun _ k => XS.lload X8.here hx rfl (hb hby at_14) rfl k) ?_
   refine o_q T8 (o_f38 m 18 q0 q1 q2 q3 q4 kq q0 q1 [(.long q1), (.long q0)]) (fun _ k => XS.lload X8.here hx rfl (hb hby at_16) rfl k) ?_
   refine o_q T8 (o_f38 m 19 q0 q1 q2 q3 q4 kq q0 q1 [(.int (lcmpW q0 q1))]) (fun _ k => XS.lcmp X8.here hx rfl (hb hby at_18) rfl k) ?_
   by_cases c2 : q0 = q1
   ·refine o_q T8 (o_f38 m 22 q0 q1 q2 q3 q4 kq q0 q1 []) (fun _ k => XS.ifNo X8.here hx rfl (hb hby at_19) rfl ((if0 _ _).trans (teq ((lw_eq _ _).mpr c2)).2) k) ?_
    refine o_q T8 (o_f38 m 24 q0 q1 q2 q3 q4 kq q0 q1 [(.long q1)]) (fun _ k => XS.lload X8.here hx rfl (hb hby at_22) rfl k) ?_
    refine o_q T8 (o_f38 m 27 q0 q1 q2 q3 q4 kq q0 q1 [(.long (9223372036854775807 : Int64)), (.long q1)]) (fun _ k => X8.ldc2Long hx hown (mvT hZ (o_m hw 155 rfl)) (g := (o_f38 m 24 q0 q1 q2 q3 q4 kq q0 q1 [(.long q1)])) rfl (hb hby at_24) _ k) ?_
    refine o_q T8 (o_f38 m 28 q0 q1 q2 q3 q4 kq q0 q1 [(.int (lcmpW q1 (9223372036854775807 : Int64)))]) (fun _ k => XS.lcmp X8.here hx rfl (hb hby at_27) rfl k) ?_
    by_cases c3 : q1 = (9223372036854775807 : Int64)
    ·refine o_q T8 (o_f38 m 31 q0 q1 q2 q3 q4 kq q0 q1 []) (fun _ k => XS.ifNo X8.here hx rfl (hb hby at_28) rfl ((if0 _ _).trans (teq ((lw_eq _ _).mpr c3)).2) k) ?_
     refine o_q T8 (o_f38 m 33 q0 q1 q2 q3 q4 kq q0 q1 [(.long q1)]) (fun _ k => XS.lload X8.here hx rfl (hb hby at_31) rfl k) ?_
     refine o_q T8 (o_f38 m 34 q0 q1 q2 q3 q4 kq q0 q1 [(.long (1 : Int64)), (.long q1)]) (fun _ k => XS.lconst X8.here hx rfl (hb hby at_33) k) ?_
     refine o_q T8 (o_f38 m 35 q0 q1 q2 q3 q4 kq q0 q1 [(.long (q1 - (1 : Int64)))]) (fun _ k => XS.lsub X8.here hx rfl (hb hby at_34) rfl k) ?_
     refine o_q T8 (o_f38 m 37 q0 q1 q2 q3 q4 kq (q1 - (1 : Int64)) q1 []) (fun _ k => XS.lstore X8.here hx rfl (hb hby at_35) rfl (l' := (o_t38 q0 q1 q2 q3 q4 kq (q1 - (1 : Int64)) q1)) rfl k) ?_
     refine o_q T8 (o_f38 m 46 q0 q1 q2 q3 q4 kq (q1 - (1 : Int64)) q1 []) (fun _ k => XS.goto X8.here hx rfl (pc0 := 37) (pc' := 46) rfl (hb hby at_37) (by decide) (by decide) k) ?_
     have o9 : (q1 - (1 : Int64)) < q1 := by
      have r1 := rng64 q1
      have k2 : (1 : Int64).toInt = 1 := by decide
      have e3 := c_lsub (q1) ((1 : Int64))
      have r3 := rng64 ((q1 - (1 : Int64)))
      rw [show (1 : Int64).toInt = 1 from by decide] at e3
      have r4 := rng64 q0
      have k5 : (9223372036854775807 : Int64).toInt = 9223372036854775807 := by decide
      have d0 : ¬ (q1.toInt < q0.toInt) := mt Int64.lt_iff_toInt_lt.mpr c0
      have d1 : q0.toInt < q1.toInt := Int64.lt_iff_toInt_lt.mp c1
      have d2 : q0.toInt = q1.toInt := congrArg Int64.toInt c2
      have d3 : q1.toInt = (9223372036854775807 : Int64).toInt := congrArg Int64.toInt c3
      rw [Int64.lt_iff_toInt_lt]
      omega
     exact o_L1 Z a0 hw h0.size q0 q1 q2 q3 q4 kq (q1 - (1 : Int64)) q1 wa ni hx hby hml hZ hown hret hlk X8 e8 (Fr.nil _) (Nat.le_refl _) wl Ew0 Sn Sw o9
    ·refine o_q T8 (o_f38 m 40 q0 q1 q2 q3 q4 kq q0 q1 []) (fun _ k => XS.ifYes X8.here hx rfl (pc0 := 28) (pc' := 40) rfl (hb hby at_28) rfl ((if0 _ _).trans (feq (mt (lw_eq _ _).mp c3)).2) (by decide) (by decide) k) ?_
     refine o_q T8 (o_f38 m 42 q0 q1 q2 q3 q4 kq q0 q1 [(.long q0)]) (fun _ k => XS.lload X8.here hx rfl (hb hby at_40) rfl k) ?_
     refine o_q T8 (o_f38 m 43 q0 q1 q2 q3 q4 kq q0 q1 [(.long (1 : Int64)), (.long q0)]) (fun _ k => XS.lconst X8.here hx rfl (hb hby at_42) k) ?_
     refine o_q T8 (o_f38 m 44 q0 q1 q2 q3 q4 kq q0 q1 [(.long (q0 + (1 : Int64)))]) (fun _ k => XS.ladd X8.here hx rfl (hb hby at_43) rfl k) ?_
     refine o_q T8 (o_f38 m 46 q0 q1 q2 q3 q4 kq q0 (q0 + (1 : Int64)) []) (fun _ k => XS.lstore X8.here hx rfl (hb hby at_44) rfl (l' := (o_t38 q0 q1 q2 q3 q4 kq q0 (q0 + (1 : Int64)))) rfl k) ?_
     have o10 : q0 < (q0 + (1 : Int64)) := by
      have r1 := rng64 q0
      have k2 : (1 : Int64).toInt = 1 := by decide
      have e3 := c_ladd (q0) ((1 : Int64))
      have r3 := rng64 ((q0 + (1 : Int64)))
      rw [show (1 : Int64).toInt = 1 from by decide] at e3
      have r4 := rng64 q1
      have k5 : (9223372036854775807 : Int64).toInt = 9223372036854775807 := by decide
      have d0 : ¬ (q1.toInt < q0.toInt) := mt Int64.lt_iff_toInt_lt.mpr c0
      have d1 : q0.toInt < q1.toInt := Int64.lt_iff_toInt_lt.mp c1
      have d2 : q0.toInt = q1.toInt := congrArg Int64.toInt c2
      have d3 : ¬ (q1.toInt = (9223372036854775807 : Int64).toInt) := fun q => c3 (Int64.toInt_inj.mp q)
      rw [Int64.lt_iff_toInt_lt]
      omega
     exact o_L1 Z a0 hw h0.size q0 q1 q2 q3 q4 kq q0 (q0 + (1 : Int64)) wa ni hx hby hml hZ hown hret hlk X8 e8 (Fr.nil _) (Nat.le_refl _) wl Ew0 Sn Sw o10
   ·refine o_q T8 (o_f38 m 46 q0 q1 q2 q3 q4 kq q0 q1 []) (fun _ k => XS.ifYes X8.here hx rfl (pc0 := 19) (pc' := 46) rfl (hb hby at_19) rfl ((if0 _ _).trans (feq (mt (lw_eq _ _).mp c2)).2) (by decide) (by decide) k) ?_
    have o11 : q0 < q1 := by
     have r1 := rng64 q0
     have r2 := rng64 q1
     have d0 : ¬ (q1.toInt < q0.toInt) := mt Int64.lt_iff_toInt_lt.mpr c0
     have d1 : q0.toInt < q1.toInt := Int64.lt_iff_toInt_lt.mp c1
     have d2 : ¬ (q0.toInt = q1.toInt) := fun q => c2 (Int64.toInt_inj.mp q)
     rw [Int64.lt_iff_toInt_lt]
     omega
    exact o_L1 Z a0 hw h0.size q0 q1 q2 q3 q4 kq q0 q1 wa ni hx hby hml hZ hown hret hlk X8 e8 (Fr.nil _) (Nat.le_refl _) wl Ew0 Sn Sw o11
  ·rw [if_neg c1] at st8
   refine o_q T8 (o_f41 m 12 q0 q1 q2 q3 q4 kq q0 [(.long q0)]) st8 ?_
   refine o_q T8 (o_f38 m 14 q0 q1 q2 q3 q4 kq q0 q0 []) (fun _ k => XS.lstore X8.here hx rfl (hb hby at_12) rfl (l' := (o_t38 q0 q1 q2 q3 q4 kq q0 q0)) rfl k) ?_
   refine o_q T8 (o_f38 m 16 q0 q1 q2 q3 q4 kq q0 q0 [(.long q0)]) (fun _ k => XS.lload X8.here hx rfl (hb hby at_14) rfl k) ?_
   refine o_q T8 (o_f38 m 18 q0 q1 q2 q3 q4 kq q0 q0 [(.long q0), (.long q0)]) (fun _ k => XS.lload X8.here hx rfl (hb hby at_16) rfl k) ?_
   refine o_q T8 (o_f38 m 19 q0 q1 q2 q3 q4 kq q0 q0 [(.int (lcmpW q0 q0))]) (fun _ k => XS.lcmp X8.here hx rfl (hb hby at_18) rfl k) ?_
   refine o_q T8 (o_f38 m 22 q0 q1 q2 q3 q4 kq q0 q0 []) (fun _ k => XS.ifNo X8.here hx rfl (hb hby at_19) rfl ((if0 _ _).trans (teq ((lw_eq _ _).mpr (rfl : q0 = q0))).2) k) ?_
   refine o_q T8 (o_f38 m 24 q0 q1 q2 q3 q4 kq q0 q0 [(.long q0)]) (fun _ k => XS.lload X8.here hx rfl (hb hby at_22) rfl k) ?_
   refine o_q T8 (o_f38 m 27 q0 q1 q2 q3 q4 kq q0 q0 [(.long (9223372036854775807 : Int64)), (.long q0)]) (fun _ k => X8.ldc2Long hx hown (mvT hZ (o_m hw 155 rfl)) (g := (o_f38 m 24 q0 q1 q2 q3 q4 kq q0 q0 [(.long q0)])) rfl (hb hby at_24) _ k) ?_
   refine o_q T8 (o_f38 m 28 q0 q1 q2 q3 q4 kq q0 q0 [(.int (lcmpW q0 (9223372036854775807 : Int64)))]) (fun _ k => XS.lcmp X8.here hx rfl (hb hby at_27) rfl k) ?_
   by_cases c2 : q0 = (9223372036854775807 : Int64)
   ·refine o_q T8 (o_f38 m 31 q0 q1 q2 q3 q4 kq q0 q0 []) (fun _ k => XS.ifNo X8.here hx rfl (hb hby at_28) rfl ((if0 _ _).trans (teq ((lw_eq _ _).mpr c2)).2) k) ?_
    refine o_q T8 (o_f38 m 33 q0 q1 q2 q3 q4 kq q0 q0 [(.long q0)]) (fun _ k => XS.lload X8.here hx rfl (hb hby at_31) rfl k) ?_
    refine o_q T8 (o_f38 m 34 q0 q1 q2 q3 q4 kq q0 q0 [(.long (1 : Int64)), (.long q0)]) (fun _ k => XS.lconst X8.here hx rfl (hb hby at_33) k) ?_
    refine o_q T8 (o_f38 m 35 q0 q1 q2 q3 q4 kq q0 q0 [(.long (q0 - (1 : Int64)))]) (fun _ k => XS.lsub X8.here hx rfl (hb hby at_34) rfl k) ?_
    refine o_q T8 (o_f38 m 37 q0 q1 q2 q3 q4 kq (q0 - (1 : Int64)) q0 []) (fun _ k => XS.lstore X8.here hx rfl (hb hby at_35) rfl (l' := (o_t38 q0 q1 q2 q3 q4 kq (q0 - (1 : Int64)) q0)) rfl k) ?_
    refine o_q T8 (o_f38 m 46 q0 q1 q2 q3 q4 kq (q0 - (1 : Int64)) q0 []) (fun _ k => XS.goto X8.here hx rfl (pc0 := 37) (pc' := 46) rfl (hb hby at_37) (by decide) (by decide) k) ?_
    have o12 : (q0 - (1 : Int64)) < q0 := by
     have r1 := rng64 q0
     have k2 : (1 : Int64).toInt = 1 := by decide
     have e3 := c_lsub (q0) ((1 : Int64))
     have r3 := rng64 ((q0 - (1 : Int64)))
     rw [show (1 : Int64).toInt = 1 from by decide] at e3
     have r4 := rng64 q1
     have k5 : (9223372036854775807 : Int64).toInt = 9223372036854775807 := by decide
     have d0 : ¬ (q1.toInt < q0.toInt) := mt Int64.lt_iff_toInt_lt.mpr c0
     have d1 : ¬ (q0.toInt < q1.toInt) := mt Int64.lt_iff_toInt_lt.mpr c1
     have d2 : q0.toInt = (9223372036854775807 : Int64).toInt := congrArg Int64.toInt c2
     rw [Int64.lt_iff_toInt_lt]
     omega
    exact o_L1 Z a0 hw h0.size q0 q1 q2 q3 q4 kq (q0 - (1 : Int64)) q0 wa ni hx hby hml hZ hown hret hlk X8 e8 (Fr.nil _) (Nat.le_refl _) wl Ew0 Sn Sw o12
   ·refine o_q T8 (o_f38 m 40 q0 q1 q2 q3 q4 kq q0 q0 []) (fun _ k => XS.ifYes X8.here hx rfl (pc0 := 28) (pc' := 40) rfl (hb hby at_28) rfl ((if0 _ _).trans (feq (mt (lw_eq _ _).mp c2)).2) (by decide) (by decide) k) ?_
    refine o_q T8 (o_f38 m 42 q0 q1 q2 q3 q4 kq q0 q0 [(.long q0)]) (fun _ k => XS.lload X8.here hx rfl (hb hby at_40) rfl k) ?_
    refine o_q T8 (o_f38 m 43 q0 q1 q2 q3 q4 kq q0 q0 [(.long (1 : Int64)), (.long q0)]) (fun _ k => XS.lconst X8.here hx rfl (hb hby at_42) k) ?_
    refine o_q T8 (o_f38 m 44 q0 q1 q2 q3 q4 kq q0 q0 [(.long (q0 + (1 : Int64)))]) (fun _ k => XS.ladd X8.here hx rfl (hb hby at_43) rfl k) ?_
    refine o_q T8 (o_f38 m 46 q0 q1 q2 q3 q4 kq q0 (q0 + (1 : Int64)) []) (fun _ k => XS.lstore X8.here hx rfl (hb hby at_44) rfl (l' := (o_t38 q0 q1 q2 q3 q4 kq q0 (q0 + (1 : Int64)))) rfl k) ?_
    have o13 : q0 < (q0 + (1 : Int64)) := by
     have r1 := rng64 q0
     have k2 : (1 : Int64).toInt = 1 := by decide
     have e3 := c_ladd (q0) ((1 : Int64))
     have r3 := rng64 ((q0 + (1 : Int64)))
     rw [show (1 : Int64).toInt = 1 from by decide] at e3
     have r4 := rng64 q1
     have k5 : (9223372036854775807 : Int64).toInt = 9223372036854775807 := by decide
     have d0 : ¬ (q1.toInt < q0.toInt) := mt Int64.lt_iff_toInt_lt.mpr c0
     have d1 : ¬ (q0.toInt < q1.toInt) := mt Int64.lt_iff_toInt_lt.mpr c1
     have d2 : ¬ (q0.toInt = (9223372036854775807 : Int64).toInt) := fun q => c2 (Int64.toInt_inj.mp q)
     rw [Int64.lt_iff_toInt_lt]
     omega
    exact o_L1 Z a0 hw h0.size q0 q1 q2 q3 q4 kq q0 (q0 + (1 : Int64)) wa ni hx hby hml hZ hown hret hlk X8 e8 (Fr.nil _) (Nat.le_refl _) wl Ew0 Sn Sw o13
set_option maxRecDepth 65536 in
set_option maxHeartbeats 40000000 in
theorem o_comes {Post : Tables → Env → Array Value → State → Outcome → State → Prop} (hpost : ∀ tb e args s v u, (limb_1_1.after args s (.returned v) u = true ∧ limb_1_2.after args s (.returned v) u = true ∧ True) → FrameEnd s (.returned v) u (Jvm.fieldLocs frame_1_writes args s ++ Jvm.arrayLocs frame_1_arrays args s ++ Jvm.staticLocs frame_1_statics s) 32 448 → Post tb e args s (.returned v) u) :
  ArmFor flags0 classFile x code maxLocals ret World_1 tables_1 room_1 Calls_1 rest_1 Pre_1 Post := by
 intro l hfl _ _ p e ha hc hk s m args below hf hA hF happ hP
 obtain ⟨hcalls, hrest, hpre⟩ := hP
 obtain ⟨-, -, -, hnamed, -, -, -, hat⟩ := (Spec.applies_iff hf).mp happ
 obtain ⟨hg, hn⟩ := and_e (Cond.before_iff.mp (show (Jvm.Cond.and given_1 narrow_1).before args s = true from hpre))
 obtain ⟨g0, g0'⟩ := and_e hg
 obtain ⟨g1, g1'⟩ := and_e g0'
 obtain ⟨g2, g2'⟩ := and_e g1'
 obtain ⟨g3, g3'⟩ := and_e g2'
 obtain ⟨g4, g4'⟩ := and_e g3'
 obtain ⟨g5, g5'⟩ := and_e g4'
 obtain ⟨w0, w1, w2, w3, w4, w5, rfl⟩ : ∃ w0 w1 w2 w3 w4 w5 : Value, args = #[w0, w1, w2, w3, w4, w5] := by
  have hs : args.size = 6 := by simpa [Cond.value, given_1] using g0
  obtain ⟨L⟩ := args
  match L, hs with
  | [w0, w1, w2, w3, w4, w5], _ => exact ⟨w0, w1, w2, w3, w4, w5, rfl⟩
 have hw := fun d (hd : d ∈ tables_1) => atoms_spec (ws := Jvm.Cond.code x code maxLocals ret :: tables_1) hat d (List.mem_cons_of_mem _ hd)
 have hfit : Fit s := fun {y c} hc i hi => by
  obtain ⟨ha, rfl⟩ := Array.getElem?_eq_some_iff.mp hc
  have q := List.all_eq_true.mp ((Array.all_eq_true_iff_forall_mem.mp hF) _ (Array.getElem_mem ha)) i (List.mem_range.mpr hi)
  simpa [Array.getElem?_eq_getElem hi] using q
 obtain ⟨i0, ei0⟩ := isL_v g1
 obtain rfl : w0 = (.long i0) := Option.some.inj ei0
 obtain ⟨i1, ei1⟩ := isL_v g2
 obtain rfl : w1 = (.long i1) := Option.some.inj ei1
 obtain ⟨i2, ei2⟩ := isL_v g3
 obtain rfl : w2 = (.long i2) := Option.some.inj ei2
 obtain ⟨i3, ei3⟩ := isL_v g4
 obtain rfl : w3 = (.long i3) := Option.some.inj ei3
 obtain ⟨i4, ei4⟩ := isL_v g5
 obtain rfl : w4 = (.long i4) := Option.some.inj ei4
 obtain ⟨i5, ei5⟩ := is_v g5'
 obtain rfl : w5 = (.int i5) := Option.some.inj ei5
 obtain ⟨n0, n0'⟩ := and_e hn
 obtain ⟨n1, n1'⟩ := and_e n0'
 obtain ⟨s_CpuProfile_NO_INSTANTS, v_CpuProfile_NO_INSTANTS⟩ := arr_v n0
 have S_CpuProfile_NO_INSTANTS : Sta s s.heap o_n1 "NO_INSTANTS" "[J" (.ref s_CpuProfile_NO_INSTANTS) := Sta.start v_CpuProfile_NO_INSTANTS (Or.inr ⟨(o_m hw 9 rfl), (o_m hw 31 rfl)⟩)
 -- n1 says: (Jvm.Cond.eq (Jvm.Term.length (Jvm.Term.static o_n1 "NO_INSTANTS" "[J")) (Jvm.Term.int (0 : Int32)))
 obtain ⟨s_CpuProfile_UNWATCHED, v_CpuProfile_UNWATCHED⟩ := exa_v n1'
 have E_CpuProfile_UNWATCHED : Exa s s.heap s_CpuProfile_UNWATCHED o_n2 := Exa.start v_CpuProfile_UNWATCHED n1'
 have S_CpuProfile_UNWATCHED : Sta s s.heap o_n1 "UNWATCHED" "Lcom/example/gapwright/gapwright/profile/CpuProfile$Watcher;" (.ref s_CpuProfile_UNWATCHED) := Sta.start v_CpuProfile_UNWATCHED (Or.inr ⟨(o_m hw 9 rfl), (o_m hw 37 rfl)⟩)
 obtain ⟨n, o, h1, h2, h3, _, L, rfl, ⟨rfl, N⟩, hq⟩ := o_rm0 l s _ hw tables_1 i0 i1 i2 i3 i4 i5 s_CpuProfile_UNWATCHED s_CpuProfile_NO_INSTANTS s.heap E_CpuProfile_UNWATCHED.lt E_CpuProfile_UNWATCHED S_CpuProfile_NO_INSTANTS S_CpuProfile_UNWATCHED p e ha hc hk s m _ below hf ((Spec.applies_iff_loose hf).mp happ).1 ⟨rfl, State.Warmed39.refl s, rfl⟩ trivial
 refine ⟨n, _, h1, h2, h3, hpost _ _ _ _ _ _ ⟨Cond.after_iff.mpr rfl, Cond.after_iff.mpr (eq_i res_at (Term.int_eval (1)) rfl), trivial⟩ ⟨hq.1, hq.2.1, (hq.2.2.sift fun y hy => Or.inr (N y hy)).mono (by decide) (by decide)⟩⟩
theorem main_1_1 : Claimed_1_1 := o_comes fun _ _ _ _ _ _ h hF => ⟨h.1, hF⟩
theorem main_1_2 : Claimed_1_2 := o_comes fun _ _ _ _ _ _ h hF => ⟨h.2.1, hF⟩
end Jvm.Pilot.@@N@@
namespace Jvm.Pilot.@@N@@
open Jvm Jvm.ClassFile Sem Op Lib Jvm.Free Jvm.Stand Jvm.Pilot.@@N@@.Jvm.D
/-! MADE BY PROGRAM (witnessworld.py) out of the Statement's table words and the real class files: 16 classes; the members and pool entries that the words name. The judged class is class 1, her method 1. -/
namespace start1
open Jvm.ClassFile
def u (s : String) : CpInfo := .utf8 (stringToUtf16 s)
/-- a pool by its gaps: so many unusable entries, then the entry; so many at the end -/
def gap : Nat → List CpInfo → List CpInfo
  | 0, r => r
  | n + 1, r => .unusable :: gap n r
def poolList (es : List (Nat × CpInfo)) (last : Nat) : List CpInfo := es.foldr (fun e r => gap e.1 (e.2 :: r)) (gap last [])
def pool (es : List (Nat × CpInfo)) (last : Nat) : Array CpInfo := ⟨poolList es last⟩
def fileOf (pool : Array CpInfo) (this : Nat) (attrs : Array Attribute := #[]) (ms : Array MethodInfo := #[]) (fl : Nat := 33) (sup : Nat := 0) (ifs : Array Nat := #[]) (fds : Array FieldInfo := #[]) : ClassFile where
  minorVersion := 0
  majorVersion := 65
  constantPool := pool
  accessFlags := fl
  thisClass := this
  superClass := sup
  interfaces := ifs
  fields := fds
  methods := ms
  attributes := attrs
def plain (name : String) (sup : Option ClassId) : Class where
  name := name
  kind := .ordinary
  loader := none
  accessFlags := 33
  super := sup
  interfaces := #[]
  cf := none
  fields := #[]
  methods := #[]
  instanceTypes := #[]
  staticTypes := #[]
  resolved := #[]
  callSites := []
  init := .initialized
  statics := none
  mirror := none

def pool0 : Array CpInfo := pool [(5, u "<init>"), (0, u "()V"), (1, .class_ 10), (1, u "java/lang/Object")] 113

def k0c0 : Code := { maxStack := 0, maxLocals := 1, code := object_method_1_code, exceptionTable := #[], attributes := #[] }
def k0m0 : Method := { name := "<init>", desc := "()V", sig := { parameters := [], returnType := none }, accessFlags := 1, code := some k0c0 }
/-- java/lang/Object -/
def k0 : Class := { plain "java/lang/Object" none with
  accessFlags := 33
  interfaces := #[]
  cf := some (fileOf pool0 8 #[] #[{ accessFlags := 1, nameIndex := 5, descriptorIndex := 6, attributes := #[] }] 33 0 #[] #[])
  fields := #[]
  methods := #[k0m0]
  instanceTypes := #[]
  staticTypes := #[]
  resolved := Array.replicate 124 none
  statics := none }

def pool1 : Array CpInfo := pool [(2, .class_ 4), (1, u "java/lang/Object"), (0, u "<init>"), (0, u "()V"), (0, .methodref 8 9), (0, .class_ 10), (0, .nameAndType 11 12), (0, u "java/lang/Math"), (0, u "min"), (0, u "(JJ)J"), (0, .methodref 8 14), (0, .nameAndType 15 12), (0, u "max"), (2, .long 9223372036854775807), (1, .class_ 21), (0, u "com/example/gapwright/gapwright/profile/CpuProfile"), (0, .methodref 20 23), (0, .nameAndType 5 24), (0, u "(I)V"), (0, .methodref 20 26), (0, .nameAndType 27 28), (0, u "book"), (0, u "(JJI)V"), (0, .long 9223372036854775808), (1, .long 9223372036854775809), (1, .long 9223372036854775806), (1, .long 18446744073709551606), (1, .long 10), (1, .long 100), (1, .long 200), (1, .long 18446744073709551416), (1, .long 18446744073709551516), (1, .long 5), (1, .long 6), (1, .methodref 20 52), (0, .nameAndType 53 54), (0, u "changedOver"), (0, u "(JJJ)Z"), (0, .methodref 56 57), (0, .class_ 58), (0, .nameAndType 59 60), (0, u "com/example/gapwright/gapwright/profile/CpuProfileChangedOverPinLaw"), (0, u "after"), (0, u "(III)Z"), (0, .methodref 56 62), (0, .nameAndType 63 64), (0, u "meets"), (0, u "(JJJJ)Z"), (2, u "law"), (0, u "(JJJJJI)Z")] 3

def k1m0 : Method := { name := "<init>", desc := "()V", sig := { parameters := [], returnType := none }, accessFlags := 1, code := none }
def k1c1 : Code := { maxStack := 8, maxLocals := 24, code := code, exceptionTable := #[], attributes := #[] }
def k1m1 : Method := { name := "law", desc := "(JJJJJI)Z", sig := { parameters := [.long, .long, .long, .long, .long, .int], returnType := some .boolean }, accessFlags := 9, code := some k1c1 }
def k1c2 : Code := { maxStack := 2, maxLocals := 3, code := method_3_code, exceptionTable := #[], attributes := #[] }
def k1m2 : Method := { name := "after", desc := "(III)Z", sig := { parameters := [.int, .int, .int], returnType := some .boolean }, accessFlags := 10, code := some k1c2 }
def k1c3 : Code := { maxStack := 4, maxLocals := 8, code := method_4_code, exceptionTable := #[], attributes := #[] }
def k1m3 : Method := { name := "meets", desc := "(JJJJ)Z", sig := { parameters := [.long, .long, .long, .long], returnType := some .boolean }, accessFlags := 10, code := some k1c3 }
/-- com/example/gapwright/gapwright/profile/CpuProfileChangedOverPinLaw -/
def k1 : Class := { plain "com/example/gapwright/gapwright/profile/CpuProfileChangedOverPinLaw" (some 0) with
  accessFlags := 49
  interfaces := #[]
  cf := some (fileOf pool1 56 #[] #[{ accessFlags := 1, nameIndex := 5, descriptorIndex := 6, attributes := #[] }, { accessFlags := 9, nameIndex := 67, descriptorIndex := 68, attributes := #[] }, { accessFlags := 10, nameIndex := 59, descriptorIndex := 60, attributes := #[] }, { accessFlags := 10, nameIndex := 63, descriptorIndex := 64, attributes := #[] }] 49 2 #[] #[])
  fields := #[]
  methods := #[k1m0, k1m1, k1m2, k1m3]
  instanceTypes := #[]
  staticTypes := #[]
  resolved := Array.replicate 72 none
  statics := none }

def pool2 : Array CpInfo := pool [(1, .class_ 2), (0, u "java/lang/Math"), (1, .class_ 6), (1, u "java/lang/Object"), (0, u "<init>"), (0, u "()V"), (89, .class_ 100), (1, u "java/lang/Math$RandomNumberGeneratorHolder"), (20, u "(JJ)J"), (50, u "negativeZeroFloatBits"), (0, u "J"), (2, u "negativeZeroDoubleBits"), (21, u "max"), (2, u "min"), (43, u "$assertionsDisabled"), (0, u "Z"), (88, u "(II)I"), (2, u "twoToTheDoubleScaleDown"), (0, u "D"), (4, u "twoToTheDoubleScaleUp"), (9, u "E"), (3, u "PI"), (2, u "TAU"), (2, u "DEGREES_TO_RADIANS"), (0, u "RADIANS_TO_DEGREES")] 94

def k2m0 : Method := { name := "<init>", desc := "()V", sig := { parameters := [], returnType := none }, accessFlags := 2, code := none }
def k2c1 : Code := { maxStack := 2, maxLocals := 2, code := jdk_29_method_65_code, exceptionTable := #[], attributes := #[] }
def k2m1 : Method := { name := "max", desc := "(II)I", sig := { parameters := [.int, .int], returnType := some .int }, accessFlags := 9, code := some k2c1 }
def k2c2 : Code := { maxStack := 4, maxLocals := 4, code := jdk_29_method_66_code, exceptionTable := #[], attributes := #[] }
def k2m2 : Method := { name := "max", desc := "(JJ)J", sig := { parameters := [.long, .long], returnType := some .long }, accessFlags := 9, code := some k2c2 }
def k2c3 : Code := { maxStack := 2, maxLocals := 2, code := jdk_29_method_69_code, exceptionTable := #[], attributes := #[] }
def k2m3 : Method := { name := "min", desc := "(II)I", sig := { parameters := [.int, .int], returnType := some .int }, accessFlags := 9, code := some k2c3 }
def k2c4 : Code := { maxStack := 4, maxLocals := 4, code := jdk_29_method_70_code, exceptionTable := #[], attributes := #[] }
def k2m4 : Method := { name := "min", desc := "(JJ)J", sig := { parameters := [.long, .long], returnType := some .long }, accessFlags := 9, code := some k2c4 }
/-- java/lang/Math -/
def k2 : Class := { plain "java/lang/Math" (some 0) with
  accessFlags := 49
  interfaces := #[]
  cf := some (fileOf pool2 1 #[.nestMembers #[98]] #[{ accessFlags := 2, nameIndex := 7, descriptorIndex := 8, attributes := #[] }, { accessFlags := 9, nameIndex := 198, descriptorIndex := 335, attributes := #[] }, { accessFlags := 9, nameIndex := 198, descriptorIndex := 121, attributes := #[] }, { accessFlags := 9, nameIndex := 201, descriptorIndex := 335, attributes := #[] }, { accessFlags := 9, nameIndex := 201, descriptorIndex := 121, attributes := #[] }] 49 4 #[] #[{ accessFlags := 25, nameIndex := 354, descriptorIndex := 339, attributes := #[] }, { accessFlags := 25, nameIndex := 358, descriptorIndex := 339, attributes := #[] }, { accessFlags := 25, nameIndex := 361, descriptorIndex := 339, attributes := #[] }, { accessFlags := 26, nameIndex := 364, descriptorIndex := 339, attributes := #[] }, { accessFlags := 26, nameIndex := 365, descriptorIndex := 339, attributes := #[] }, { accessFlags := 26, nameIndex := 172, descriptorIndex := 173, attributes := #[] }, { accessFlags := 26, nameIndex := 176, descriptorIndex := 173, attributes := #[] }, { accessFlags := 8, nameIndex := 344, descriptorIndex := 339, attributes := #[] }, { accessFlags := 8, nameIndex := 338, descriptorIndex := 339, attributes := #[] }, { accessFlags := 4120, nameIndex := 245, descriptorIndex := 246, attributes := #[] }])
  fields := #[{ name := "E", type := .double, accessFlags := 25, slot := 0, constantValue := 0 }, { name := "PI", type := .double, accessFlags := 25, slot := 1, constantValue := 0 }, { name := "TAU", type := .double, accessFlags := 25, slot := 2, constantValue := 0 }, { name := "DEGREES_TO_RADIANS", type := .double, accessFlags := 26, slot := 3, constantValue := 0 }, { name := "RADIANS_TO_DEGREES", type := .double, accessFlags := 26, slot := 4, constantValue := 0 }, { name := "negativeZeroFloatBits", type := .long, accessFlags := 26, slot := 5, constantValue := 0 }, { name := "negativeZeroDoubleBits", type := .long, accessFlags := 26, slot := 6, constantValue := 0 }, { name := "twoToTheDoubleScaleUp", type := .double, accessFlags := 8, slot := 7, constantValue := 0 }, { name := "twoToTheDoubleScaleDown", type := .double, accessFlags := 8, slot := 8, constantValue := 0 }, { name := "$assertionsDisabled", type := .boolean, accessFlags := 4120, slot := 9, constantValue := 0 }]
  methods := #[k2m0, k2m1, k2m2, k2m3, k2m4]
  instanceTypes := #[]
  staticTypes := #[.double, .double, .double, .double, .double, .long, .long, .double, .double, .boolean]
  resolved := Array.replicate 460 none
  statics := none }

def pool3 : Array CpInfo := pool [(3, .methodref 4 5), (0, .class_ 6), (0, .nameAndType 7 8), (0, u "java/lang/Object"), (0, u "<init>"), (0, u "()V"), (0, .class_ 10), (0, u "com/example/gapwright/gapwright/profile/FreeRuns"), (0, .methodref 9 12), (0, .nameAndType 7 13), (0, u "(Lcom/example/gapwright/gapwright/profile/CpuProfile;)V"), (0, .fieldref 15 16), (0, .class_ 17), (0, .nameAndType 18 19), (0, u "com/example/gapwright/gapwright/profile/CpuProfile"), (0, u "runs"), (0, u "Lcom/example/gapwright/gapwright/profile/FreeRuns;"), (0, .fieldref 15 21), (0, .nameAndType 22 23), (0, u "firstWith"), (0, u "[J"), (0, .fieldref 15 25), (0, .nameAndType 26 23), (0, u "NO_INSTANTS"), (0, .fieldref 15 28), (0, .nameAndType 29 23), (0, u "openedAt"), (0, .fieldref 15 31), (0, .nameAndType 32 23), (0, u "recent"), (0, .fieldref 15 34), (0, .nameAndType 35 36), (0, u "UNWATCHED"), (0, u "Lcom/example/gapwright/gapwright/profile/CpuProfile$Watcher;"), (0, .fieldref 15 38), (0, .nameAndType 39 36), (0, u "watcher"), (0, .fieldref 15 41), (0, .nameAndType 42 43), (0, u "cpus"), (0, u "I"), (0, .long 9223372036854775808), (1, .fieldref 15 47), (0, .nameAndType 48 23), (0, u "times"), (0, .fieldref 15 50), (0, .nameAndType 51 52), (0, u "free"), (0, u "[I"), (0, .fieldref 15 54), (0, .nameAndType 55 43), (0, u "tail"), (0, .fieldref 15 57), (0, .nameAndType 58 43), (0, u "head"), (4, .methodref 15 64), (0, .nameAndType 65 66), (0, u "segmentAt"), (0, u "(J)I"), (12, .class_ 81), (1, u "com/example/gapwright/gapwright/profile/CpuProfile$Runs"), (6, .class_ 90), (1, u "java/lang/Math"), (0, u "max"), (0, .methodref 88 93), (0, .nameAndType 91 94), (0, u "(II)I"), (8, .fieldref 15 104), (0, .nameAndType 105 106), (0, u "firstKnown"), (0, u "Z"), (0, .methodref 88 108), (0, .nameAndType 109 94), (0, u "min"), (3, u "(I)I"), (42, .fieldref 15 157), (0, .nameAndType 158 159), (0, u "changes"), (0, u "J"), (0, .fieldref 15 161), (0, .nameAndType 162 159), (0, u "merged"), (0, .fieldref 15 164), (0, .nameAndType 165 159), (0, u "gaveBack"), (0, .long 8), (1, .fieldref 15 169), (0, .nameAndType 170 43), (0, u "watchedAs"), (0, .interfaceMethodref 172 173), (0, .class_ 174), (0, .nameAndType 175 176), (0, u "com/example/gapwright/gapwright/profile/CpuProfile$Watcher"), (0, u "booked"), (0, u "(I)V"), (0, .methodref 15 178), (0, .nameAndType 179 180), (0, u "add"), (0, u "(JJI)V"), (1, .class_ 183), (0, u "com/example/gapwright/gapwright/profile/CpuProfile$Bookings"), (14, u "book"), (9, .class_ 209), (0, u "com/example/gapwright/gapwright/profile/CpuProfile$Sweep"), (15, .methodref 15 226), (0, .nameAndType 227 8), (0, u "countsChanged"), (9, .methodref 15 238), (0, .nameAndType 239 240), (0, u "check"), (0, u "(IJ)V"), (0, .methodref 15 242), (0, .nameAndType 243 113), (0, u "room"), (0, .methodref 245 246), (0, .class_ 247), (0, .nameAndType 248 249), (0, u "java/lang/System"), (0, u "arraycopy"), (0, u "(Ljava/lang/Object;ILjava/lang/Object;II)V"), (7, .methodref 9 258), (0, .nameAndType 259 8), (0, u "moved"), (2, u "NONE"), (20, .methodref 15 284), (0, .nameAndType 285 66), (0, u "split"), (0, .methodref 9 287), (0, .nameAndType 288 289), (0, u "changed"), (0, u "(II)V"), (0, .methodref 15 291), (0, .nameAndType 292 176), (0, u "mergeWithPrevious"), (9, .fieldref 15 303), (0, .nameAndType 304 43), (0, u "lastAt"), (0, .methodref 15 306), (0, .nameAndType 307 308), (0, u "placeAtOrBefore"), (0, u "([JIIIJ)I"), (0, .methodref 9 310), (0, .nameAndType 311 176), (0, u "inserted"), (0, .methodref 9 313), (0, .nameAndType 314 176), (0, u "removed"), (0, .class_ 316), (0, u "com/example/gapwright/gapwright/profile/CpuProfile$1"), (2, u "LOOKS_UNAIDED"), (1, u "FIRST_WITH_LEAST"), (1, u "RECENT"), (1, u "UNCHANGED"), (1, u "NONE_EARLIER"), (1, u "UNKNOWN"), (22, u "changedOver"), (0, u "(JJJ)Z")] 35

def k3c0 : Code := { maxStack := 6, maxLocals := 2, code := prog_103_method_1_code, exceptionTable := #[], attributes := #[] }
def k3m0 : Method := { name := "<init>", desc := "(I)V", sig := { parameters := [.int], returnType := none }, accessFlags := 1, code := some k3c0 }
def k3c1 : Code := { maxStack := 5, maxLocals := 10, code := prog_103_method_24_code, exceptionTable := #[], attributes := #[] }
def k3m1 : Method := { name := "changedOver", desc := "(JJJ)Z", sig := { parameters := [.long, .long, .long], returnType := some .boolean }, accessFlags := 1, code := some k3c1 }
def k3c2 : Code := { maxStack := 2, maxLocals := 1, code := prog_103_method_26_code, exceptionTable := #[], attributes := #[] }
def k3m2 : Method := { name := "countsChanged", desc := "()V", sig := { parameters := [], returnType := none }, accessFlags := 2, code := some k3c2 }
def k3c3 : Code := { maxStack := 6, maxLocals := 6, code := prog_103_method_31_code, exceptionTable := #[], attributes := #[] }
def k3m3 : Method := { name := "book", desc := "(JJI)V", sig := { parameters := [.long, .long, .int], returnType := none }, accessFlags := 1, code := some k3c3 }
def k3c4 : Code := { maxStack := 6, maxLocals := 6, code := prog_103_method_37_code, exceptionTable := #[], attributes := #[] }
def k3m4 : Method := { name := "room", desc := "(I)I", sig := { parameters := [.int], returnType := some .int }, accessFlags := 2, code := some k3c4 }
def k3c5 : Code := { maxStack := 6, maxLocals := 10, code := prog_103_method_41_code, exceptionTable := #[], attributes := #[] }
def k3m5 : Method := { name := "add", desc := "(JJI)V", sig := { parameters := [.long, .long, .int], returnType := none }, accessFlags := 2, code := some k3c5 }
def k3c6 : Code := { maxStack := 6, maxLocals := 4, code := prog_103_method_42_code, exceptionTable := #[], attributes := #[] }
def k3m6 : Method := { name := "check", desc := "(IJ)V", sig := { parameters := [.int, .long], returnType := none }, accessFlags := 2, code := some k3c6 }
def k3c7 : Code := { maxStack := 7, maxLocals := 4, code := prog_103_method_43_code, exceptionTable := #[], attributes := #[] }
def k3m7 : Method := { name := "segmentAt", desc := "(J)I", sig := { parameters := [.long], returnType := some .int }, accessFlags := 2, code := some k3c7 }
def k3c8 : Code := { maxStack := 4, maxLocals := 9, code := prog_103_method_44_code, exceptionTable := #[], attributes := #[] }
def k3m8 : Method := { name := "placeAtOrBefore", desc := "([JIIIJ)I", sig := { parameters := [(.array .long), .int, .int, .int, .long], returnType := some .int }, accessFlags := 8, code := some k3c8 }
def k3c9 : Code := { maxStack := 6, maxLocals := 4, code := prog_103_method_45_code, exceptionTable := #[], attributes := #[] }
def k3m9 : Method := { name := "split", desc := "(J)I", sig := { parameters := [.long], returnType := some .int }, accessFlags := 2, code := some k3c9 }
def k3c10 : Code := { maxStack := 6, maxLocals := 2, code := prog_103_method_46_code, exceptionTable := #[], attributes := #[] }
def k3m10 : Method := { name := "mergeWithPrevious", desc := "(I)V", sig := { parameters := [.int], returnType := none }, accessFlags := 2, code := some k3c10 }
/-- com/example/gapwright/gapwright/profile/CpuProfile -/
def k3 : Class := { plain "com/example/gapwright/gapwright/profile/CpuProfile" (some 0) with
  accessFlags := 49
  interfaces := #[]
  cf := some (fileOf pool3 15 #[.nestMembers #[208, 182, 172, 79, 315]] #[{ accessFlags := 1, nameIndex := 7, descriptorIndex := 176, attributes := #[] }, { accessFlags := 1, nameIndex := 352, descriptorIndex := 353, attributes := #[] }, { accessFlags := 2, nameIndex := 227, descriptorIndex := 8, attributes := #[] }, { accessFlags := 1, nameIndex := 198, descriptorIndex := 180, attributes := #[] }, { accessFlags := 2, nameIndex := 243, descriptorIndex := 113, attributes := #[] }, { accessFlags := 2, nameIndex := 179, descriptorIndex := 180, attributes := #[] }, { accessFlags := 2, nameIndex := 239, descriptorIndex := 240, attributes := #[] }, { accessFlags := 2, nameIndex := 65, descriptorIndex := 66, attributes := #[] }, { accessFlags := 8, nameIndex := 307, descriptorIndex := 308, attributes := #[] }, { accessFlags := 2, nameIndex := 285, descriptorIndex := 66, attributes := #[] }, { accessFlags := 2, nameIndex := 292, descriptorIndex := 176, attributes := #[] }] 49 4 #[] #[{ accessFlags := 25, nameIndex := 262, descriptorIndex := 159, attributes := #[] }, { accessFlags := 26, nameIndex := 319, descriptorIndex := 43, attributes := #[] }, { accessFlags := 26, nameIndex := 321, descriptorIndex := 43, attributes := #[] }, { accessFlags := 26, nameIndex := 323, descriptorIndex := 43, attributes := #[] }, { accessFlags := 24, nameIndex := 325, descriptorIndex := 43, attributes := #[] }, { accessFlags := 24, nameIndex := 327, descriptorIndex := 43, attributes := #[] }, { accessFlags := 24, nameIndex := 329, descriptorIndex := 43, attributes := #[] }, { accessFlags := 26, nameIndex := 26, descriptorIndex := 23, attributes := #[] }, { accessFlags := 18, nameIndex := 42, descriptorIndex := 43, attributes := #[] }, { accessFlags := 2, nameIndex := 48, descriptorIndex := 23, attributes := #[] }, { accessFlags := 2, nameIndex := 51, descriptorIndex := 52, attributes := #[] }, { accessFlags := 2, nameIndex := 58, descriptorIndex := 43, attributes := #[] }, { accessFlags := 2, nameIndex := 55, descriptorIndex := 43, attributes := #[] }, { accessFlags := 2, nameIndex := 304, descriptorIndex := 43, attributes := #[] }, { accessFlags := 18, nameIndex := 18, descriptorIndex := 19, attributes := #[] }, { accessFlags := 2, nameIndex := 22, descriptorIndex := 23, attributes := #[] }, { accessFlags := 2, nameIndex := 105, descriptorIndex := 106, attributes := #[] }, { accessFlags := 2, nameIndex := 29, descriptorIndex := 23, attributes := #[] }, { accessFlags := 2, nameIndex := 158, descriptorIndex := 159, attributes := #[] }, { accessFlags := 2, nameIndex := 162, descriptorIndex := 159, attributes := #[] }, { accessFlags := 2, nameIndex := 165, descriptorIndex := 159, attributes := #[] }, { accessFlags := 18, nameIndex := 32, descriptorIndex := 23, attributes := #[] }, { accessFlags := 2, nameIndex := 39, descriptorIndex := 36, attributes := #[] }, { accessFlags := 2, nameIndex := 170, descriptorIndex := 43, attributes := #[] }, { accessFlags := 26, nameIndex := 35, descriptorIndex := 36, attributes := #[] }])
  fields := #[{ name := "NONE", type := .long, accessFlags := 25, slot := 0, constantValue := 0 }, { name := "LOOKS_UNAIDED", type := .int, accessFlags := 26, slot := 1, constantValue := 0 }, { name := "FIRST_WITH_LEAST", type := .int, accessFlags := 26, slot := 2, constantValue := 0 }, { name := "RECENT", type := .int, accessFlags := 26, slot := 3, constantValue := 0 }, { name := "UNCHANGED", type := .int, accessFlags := 24, slot := 4, constantValue := 0 }, { name := "NONE_EARLIER", type := .int, accessFlags := 24, slot := 5, constantValue := 0 }, { name := "UNKNOWN", type := .int, accessFlags := 24, slot := 6, constantValue := 0 }, { name := "NO_INSTANTS", type := (.array .long), accessFlags := 26, slot := 7, constantValue := 0 }, { name := "cpus", type := .int, accessFlags := 18, slot := 0, constantValue := 0 }, { name := "times", type := (.array .long), accessFlags := 2, slot := 1, constantValue := 0 }, { name := "free", type := (.array .int), accessFlags := 2, slot := 2, constantValue := 0 }, { name := "head", type := .int, accessFlags := 2, slot := 3, constantValue := 0 }, { name := "tail", type := .int, accessFlags := 2, slot := 4, constantValue := 0 }, { name := "lastAt", type := .int, accessFlags := 2, slot := 5, constantValue := 0 }, { name := "runs", type := (.object "com/example/gapwright/gapwright/profile/FreeRuns"), accessFlags := 18, slot := 6, constantValue := 0 }, { name := "firstWith", type := (.array .long), accessFlags := 2, slot := 7, constantValue := 0 }, { name := "firstKnown", type := .boolean, accessFlags := 2, slot := 8, constantValue := 0 }, { name := "openedAt", type := (.array .long), accessFlags := 2, slot := 9, constantValue := 0 }, { name := "changes", type := .long, accessFlags := 2, slot := 10, constantValue := 0 }, { name := "merged", type := .long, accessFlags := 2, slot := 11, constantValue := 0 }, { name := "gaveBack", type := .long, accessFlags := 2, slot := 12, constantValue := 0 }, { name := "recent", type := (.array .long), accessFlags := 18, slot := 13, constantValue := 0 }, { name := "watcher", type := (.object "com/example/gapwright/gapwright/profile/CpuProfile$Watcher"), accessFlags := 2, slot := 14, constantValue := 0 }, { name := "watchedAs", type := .int, accessFlags := 2, slot := 15, constantValue := 0 }, { name := "UNWATCHED", type := (.object "com/example/gapwright/gapwright/profile/CpuProfile$Watcher"), accessFlags := 26, slot := 8, constantValue := 0 }]
  methods := #[k3m0, k3m1, k3m2, k3m3, k3m4, k3m5, k3m6, k3m7, k3m8, k3m9, k3m10]
  instanceTypes := #[.int, (.array .long), (.array .int), .int, .int, .int, (.object "com/example/gapwright/gapwright/profile/FreeRuns"), (.array .long), .boolean, (.array .long), .long, .long, .long, (.array .long), (.object "com/example/gapwright/gapwright/profile/CpuProfile$Watcher"), .int]
  staticTypes := #[.long, .int, .int, .int, .int, .int, .int, (.array .long), (.object "com/example/gapwright/gapwright/profile/CpuProfile$Watcher")]
  resolved := Array.replicate 389 none
  statics := some 0 }

def pool4 : Array CpInfo := pool [(1, .class_ 2), (0, u "com/example/gapwright/gapwright/profile/FreeRuns"), (2, .methodref 6 7), (0, .class_ 8), (0, .nameAndType 9 10), (0, u "java/lang/Object"), (0, u "<init>"), (0, u "()V"), (0, .fieldref 1 12), (0, .nameAndType 13 14), (0, u "profile"), (0, u "Lcom/example/gapwright/gapwright/profile/CpuProfile;"), (0, .fieldref 1 16), (0, .nameAndType 17 18), (0, u "nodes"), (0, u "[[J"), (4, .fieldref 1 24), (0, .nameAndType 25 26), (0, u "leaves"), (0, u "I"), (3, u "(I)V"), (0, .fieldref 1 32), (0, .nameAndType 33 26), (0, u "blocks"), (0, .fieldref 1 35), (0, .nameAndType 36 37), (0, u "bounds"), (0, u "[I"), (11, u "moved"), (10, u "pending"), (0, u "[J"), (13, u "changed"), (0, u "[Z"), (2, u "EMPTY"), (19, u "times"), (9, u "free"), (2, u "duration"), (0, u "J"), (2, u "need"), (2, u "latestEnd"), (2, u "carry"), (12, u "fromBlock"), (43, u "ceiling"), (35, u "block"), (2, u "levels"), (29, u "BLOCK"), (2, u "FEWEST"), (1, u "NO_RUN"), (0, u "FOR_EVER"), (0, u "SIZE"), (1, u "START"), (1, u "MARKS"), (1, u "COUNT"), (1, u "FIRST_END"), (0, u "LAST_START"), (0, u "LONGEST"), (0, u "FIGURES"), (0, u "(Lcom/example/gapwright/gapwright/profile/CpuProfile;)V"), (2, u "(II)V"), (1, u "inserted"), (0, u "removed")] 12

def k4c0 : Code := { maxStack := 2, maxLocals := 2, code := prog_119_method_1_code, exceptionTable := #[], attributes := #[] }
def k4m0 : Method := { name := "<init>", desc := "(Lcom/example/gapwright/gapwright/profile/CpuProfile;)V", sig := { parameters := [(.object "com/example/gapwright/gapwright/profile/CpuProfile")], returnType := none }, accessFlags := 0, code := some k4c0 }
def k4c1 : Code := { maxStack := 4, maxLocals := 4, code := prog_119_method_2_code, exceptionTable := #[], attributes := #[] }
def k4m1 : Method := { name := "changed", desc := "(II)V", sig := { parameters := [.int, .int], returnType := none }, accessFlags := 0, code := some k4c1 }
def k4c2 : Code := { maxStack := 4, maxLocals := 4, code := prog_119_method_3_code, exceptionTable := #[], attributes := #[] }
def k4m2 : Method := { name := "inserted", desc := "(I)V", sig := { parameters := [.int], returnType := none }, accessFlags := 0, code := some k4c2 }
def k4c3 : Code := { maxStack := 4, maxLocals := 4, code := prog_119_method_4_code, exceptionTable := #[], attributes := #[] }
def k4m3 : Method := { name := "removed", desc := "(I)V", sig := { parameters := [.int], returnType := none }, accessFlags := 0, code := some k4c3 }
def k4c4 : Code := { maxStack := 2, maxLocals := 1, code := prog_119_method_5_code, exceptionTable := #[], attributes := #[] }
def k4m4 : Method := { name := "moved", desc := "()V", sig := { parameters := [], returnType := none }, accessFlags := 0, code := some k4c4 }
/-- com/example/gapwright/gapwright/profile/FreeRuns -/
def k4 : Class := { plain "com/example/gapwright/gapwright/profile/FreeRuns" (some 0) with
  accessFlags := 49
  interfaces := #[]
  cf := some (fileOf pool4 1 #[] #[{ accessFlags := 0, nameIndex := 9, descriptorIndex := 267, attributes := #[] }, { accessFlags := 0, nameIndex := 75, descriptorIndex := 270, attributes := #[] }, { accessFlags := 0, nameIndex := 272, descriptorIndex := 30, attributes := #[] }, { accessFlags := 0, nameIndex := 273, descriptorIndex := 30, attributes := #[] }, { accessFlags := 0, nameIndex := 49, descriptorIndex := 10, attributes := #[] }] 49 6 #[] #[{ accessFlags := 26, nameIndex := 248, descriptorIndex := 26, attributes := #[] }, { accessFlags := 25, nameIndex := 251, descriptorIndex := 26, attributes := #[] }, { accessFlags := 26, nameIndex := 253, descriptorIndex := 113, attributes := #[] }, { accessFlags := 24, nameIndex := 254, descriptorIndex := 113, attributes := #[] }, { accessFlags := 26, nameIndex := 255, descriptorIndex := 26, attributes := #[] }, { accessFlags := 26, nameIndex := 257, descriptorIndex := 26, attributes := #[] }, { accessFlags := 26, nameIndex := 259, descriptorIndex := 26, attributes := #[] }, { accessFlags := 26, nameIndex := 261, descriptorIndex := 26, attributes := #[] }, { accessFlags := 26, nameIndex := 263, descriptorIndex := 26, attributes := #[] }, { accessFlags := 26, nameIndex := 264, descriptorIndex := 26, attributes := #[] }, { accessFlags := 26, nameIndex := 265, descriptorIndex := 26, attributes := #[] }, { accessFlags := 26, nameIndex := 266, descriptorIndex := 26, attributes := #[] }, { accessFlags := 26, nameIndex := 79, descriptorIndex := 61, attributes := #[] }, { accessFlags := 18, nameIndex := 13, descriptorIndex := 14, attributes := #[] }, { accessFlags := 2, nameIndex := 33, descriptorIndex := 26, attributes := #[] }, { accessFlags := 2, nameIndex := 36, descriptorIndex := 37, attributes := #[] }, { accessFlags := 2, nameIndex := 179, descriptorIndex := 26, attributes := #[] }, { accessFlags := 2, nameIndex := 25, descriptorIndex := 26, attributes := #[] }, { accessFlags := 2, nameIndex := 17, descriptorIndex := 18, attributes := #[] }, { accessFlags := 2, nameIndex := 75, descriptorIndex := 76, attributes := #[] }, { accessFlags := 2, nameIndex := 60, descriptorIndex := 61, attributes := #[] }, { accessFlags := 2, nameIndex := 215, descriptorIndex := 37, attributes := #[] }, { accessFlags := 2, nameIndex := 218, descriptorIndex := 37, attributes := #[] }, { accessFlags := 2, nameIndex := 99, descriptorIndex := 61, attributes := #[] }, { accessFlags := 2, nameIndex := 109, descriptorIndex := 37, attributes := #[] }, { accessFlags := 2, nameIndex := 112, descriptorIndex := 113, attributes := #[] }, { accessFlags := 2, nameIndex := 116, descriptorIndex := 26, attributes := #[] }, { accessFlags := 2, nameIndex := 119, descriptorIndex := 113, attributes := #[] }, { accessFlags := 2, nameIndex := 122, descriptorIndex := 113, attributes := #[] }, { accessFlags := 2, nameIndex := 135, descriptorIndex := 26, attributes := #[] }])
  fields := #[{ name := "BLOCK", type := .int, accessFlags := 26, slot := 0, constantValue := 0 }, { name := "FEWEST", type := .int, accessFlags := 25, slot := 1, constantValue := 0 }, { name := "NO_RUN", type := .long, accessFlags := 26, slot := 2, constantValue := 0 }, { name := "FOR_EVER", type := .long, accessFlags := 24, slot := 3, constantValue := 0 }, { name := "SIZE", type := .int, accessFlags := 26, slot := 4, constantValue := 0 }, { name := "START", type := .int, accessFlags := 26, slot := 5, constantValue := 0 }, { name := "MARKS", type := .int, accessFlags := 26, slot := 6, constantValue := 0 }, { name := "COUNT", type := .int, accessFlags := 26, slot := 7, constantValue := 0 }, { name := "FIRST_END", type := .int, accessFlags := 26, slot := 8, constantValue := 0 }, { name := "LAST_START", type := .int, accessFlags := 26, slot := 9, constantValue := 0 }, { name := "LONGEST", type := .int, accessFlags := 26, slot := 10, constantValue := 0 }, { name := "FIGURES", type := .int, accessFlags := 26, slot := 11, constantValue := 0 }, { name := "EMPTY", type := (.array .long), accessFlags := 26, slot := 12, constantValue := 0 }, { name := "profile", type := (.object "com/example/gapwright/gapwright/profile/CpuProfile"), accessFlags := 18, slot := 0, constantValue := 0 }, { name := "blocks", type := .int, accessFlags := 2, slot := 1, constantValue := 0 }, { name := "bounds", type := (.array .int), accessFlags := 2, slot := 2, constantValue := 0 }, { name := "ceiling", type := .int, accessFlags := 2, slot := 3, constantValue := 0 }, { name := "leaves", type := .int, accessFlags := 2, slot := 4, constantValue := 0 }, { name := "nodes", type := (.array (.array .long)), accessFlags := 2, slot := 5, constantValue := 0 }, { name := "changed", type := (.array .boolean), accessFlags := 2, slot := 6, constantValue := 0 }, { name := "pending", type := (.array .long), accessFlags := 2, slot := 7, constantValue := 0 }, { name := "block", type := (.array .int), accessFlags := 2, slot := 8, constantValue := 0 }, { name := "levels", type := (.array .int), accessFlags := 2, slot := 9, constantValue := 0 }, { name := "times", type := (.array .long), accessFlags := 2, slot := 10, constantValue := 0 }, { name := "free", type := (.array .int), accessFlags := 2, slot := 11, constantValue := 0 }, { name := "duration", type := .long, accessFlags := 2, slot := 12, constantValue := 0 }, { name := "need", type := .int, accessFlags := 2, slot := 13, constantValue := 0 }, { name := "latestEnd", type := .long, accessFlags := 2, slot := 14, constantValue := 0 }, { name := "carry", type := .long, accessFlags := 2, slot := 15, constantValue := 0 }, { name := "fromBlock", type := .int, accessFlags := 2, slot := 16, constantValue := 0 }]
  methods := #[k4m0, k4m1, k4m2, k4m3, k4m4]
  instanceTypes := #[(.object "com/example/gapwright/gapwright/profile/CpuProfile"), .int, (.array .int), .int, .int, (.array (.array .long)), (.array .boolean), (.array .long), (.array .int), (.array .int), (.array .long), (.array .int), .long, .int, .long, .long, .int]
  staticTypes := #[.int, .int, .long, .long, .int, .int, .int, .int, .int, .int, .int, .int, (.array .long)]
  resolved := Array.replicate 286 none
  statics := none }

def pool5 : Array CpInfo := pool [(1, .class_ 2), (0, u "com/example/gapwright/gapwright/profile/CpuProfile$Watcher"), (0, .class_ 4), (0, u "java/lang/Object"), (0, u "booked"), (0, u "(I)V"), (4, .class_ 12), (0, u "com/example/gapwright/gapwright/profile/CpuProfile")] 2

def k5m0 : Method := { name := "booked", desc := "(I)V", sig := { parameters := [.int], returnType := none }, accessFlags := 1025, code := none }
/-- com/example/gapwright/gapwright/profile/CpuProfile$Watcher -/
def k5 : Class := { plain "com/example/gapwright/gapwright/profile/CpuProfile$Watcher" (some 0) with
  accessFlags := 1536
  interfaces := #[]
  cf := some (fileOf pool5 1 #[.nestHost 11] #[{ accessFlags := 1025, nameIndex := 5, descriptorIndex := 6, attributes := #[] }] 1536 3 #[] #[])
  fields := #[]
  methods := #[k5m0]
  instanceTypes := #[]
  staticTypes := #[]
  resolved := Array.replicate 15 none
  statics := none }

def pool6 : Array CpInfo := pool [(2, .class_ 4), (1, u "java/lang/Object"), (0, u "<init>"), (0, u "()V"), (0, .class_ 8), (0, u "com/example/gapwright/gapwright/profile/CpuProfile$1"), (0, .class_ 10), (0, u "com/example/gapwright/gapwright/profile/CpuProfile$Watcher"), (2, u "booked"), (0, u "(I)V"), (4, .class_ 20), (0, u "com/example/gapwright/gapwright/profile/CpuProfile")] 3

def k6m0 : Method := { name := "<init>", desc := "()V", sig := { parameters := [], returnType := none }, accessFlags := 0, code := none }
def k6c1 : Code := { maxStack := 0, maxLocals := 2, code := prog_104_method_2_code, exceptionTable := #[], attributes := #[] }
def k6m1 : Method := { name := "booked", desc := "(I)V", sig := { parameters := [.int], returnType := none }, accessFlags := 1, code := some k6c1 }
/-- com/example/gapwright/gapwright/profile/CpuProfile$1 -/
def k6 : Class := { plain "com/example/gapwright/gapwright/profile/CpuProfile$1" (some 0) with
  accessFlags := 32
  interfaces := #[5]
  cf := some (fileOf pool6 7 #[.nestHost 19] #[{ accessFlags := 0, nameIndex := 5, descriptorIndex := 6, attributes := #[] }, { accessFlags := 1, nameIndex := 13, descriptorIndex := 14, attributes := #[] }] 32 2 #[9] #[])
  fields := #[]
  methods := #[k6m0, k6m1]
  instanceTypes := #[]
  staticTypes := #[]
  resolved := Array.replicate 24 none
  statics := none }

def pool7 : Array CpInfo := pool [(2, .class_ 4), (1, u "java/lang/Object"), (0, u "<init>"), (0, u "()V"), (1, .class_ 10), (1, u "java/lang/System"), (0, u "allowSecurityManager"), (0, u "I"), (16, u "cons"), (0, u "Ljava/io/Console;"), (77, .class_ 110), (1, u "java/lang/System$CallersHolder"), (43, u "initialErrStream"), (0, u "Ljava/io/PrintStream;"), (19, u "security"), (0, u "Ljava/lang/SecurityManager;"), (31, .class_ 209), (0, u "java/lang/System$1"), (7, u "props"), (0, u "Ljava/util/Properties;"), (2, u "lineSeparator"), (0, u "Ljava/lang/String;"), (96, .class_ 321), (1, u "java/lang/System$LoggerFinder"), (5, .class_ 328), (0, u "java/lang/System$Logger"), (67, u "err"), (2, u "out"), (91, u "notSupportedJnuEncoding"), (15, u "in"), (17, u "initialIn"), (0, u "Ljava/io/InputStream;"), (35, u "bootLayer"), (0, u "Ljava/lang/ModuleLayer;"), (99, .class_ 664), (0, u "java/lang/System$2"), (9, u "NEVER"), (2, u "MAYBE"), (49, u "arraycopy"), (0, u "(Ljava/lang/Object;ILjava/lang/Object;II)V"), (72, .class_ 802), (0, u "java/lang/System$Logger$Level")] 31

def k7m0 : Method := { name := "<init>", desc := "()V", sig := { parameters := [], returnType := none }, accessFlags := 2, code := none }
def k7m1 : Method := { name := "arraycopy", desc := "(Ljava/lang/Object;ILjava/lang/Object;II)V", sig := { parameters := [(.object "java/lang/Object"), .int, (.object "java/lang/Object"), .int, .int], returnType := none }, accessFlags := 265, code := none }
/-- java/lang/System -/
def k7 : Class := { plain "java/lang/System" (some 0) with
  accessFlags := 49
  interfaces := #[]
  cf := some (fileOf pool7 8 #[.nestMembers #[319, 327, 801, 108, 663, 208]] #[{ accessFlags := 2, nameIndex := 5, descriptorIndex := 6, attributes := #[] }, { accessFlags := 265, nameIndex := 727, descriptorIndex := 728, attributes := #[] }] 49 2 #[] #[{ accessFlags := 25, nameIndex := 507, descriptorIndex := 526, attributes := #[] }, { accessFlags := 25, nameIndex := 399, descriptorIndex := 155, attributes := #[] }, { accessFlags := 25, nameIndex := 396, descriptorIndex := 155, attributes := #[] }, { accessFlags := 10, nameIndex := 525, descriptorIndex := 526, attributes := #[] }, { accessFlags := 26, nameIndex := 674, descriptorIndex := 12, attributes := #[] }, { accessFlags := 26, nameIndex := 677, descriptorIndex := 12, attributes := #[] }, { accessFlags := 10, nameIndex := 11, descriptorIndex := 12, attributes := #[] }, { accessFlags := 74, nameIndex := 175, descriptorIndex := 176, attributes := #[] }, { accessFlags := 10, nameIndex := 491, descriptorIndex := 222, attributes := #[] }, { accessFlags := 74, nameIndex := 29, descriptorIndex := 30, attributes := #[] }, { accessFlags := 74, nameIndex := 154, descriptorIndex := 155, attributes := #[] }, { accessFlags := 10, nameIndex := 217, descriptorIndex := 218, attributes := #[] }, { accessFlags := 10, nameIndex := 221, descriptorIndex := 222, attributes := #[] }, { accessFlags := 8, nameIndex := 562, descriptorIndex := 563, attributes := #[] }])
  fields := #[{ name := "in", type := (.object "java/io/InputStream"), accessFlags := 25, slot := 0, constantValue := 0 }, { name := "out", type := (.object "java/io/PrintStream"), accessFlags := 25, slot := 1, constantValue := 0 }, { name := "err", type := (.object "java/io/PrintStream"), accessFlags := 25, slot := 2, constantValue := 0 }, { name := "initialIn", type := (.object "java/io/InputStream"), accessFlags := 10, slot := 3, constantValue := 0 }, { name := "NEVER", type := .int, accessFlags := 26, slot := 4, constantValue := 0 }, { name := "MAYBE", type := .int, accessFlags := 26, slot := 5, constantValue := 0 }, { name := "allowSecurityManager", type := .int, accessFlags := 10, slot := 6, constantValue := 0 }, { name := "security", type := (.object "java/lang/SecurityManager"), accessFlags := 74, slot := 7, constantValue := 0 }, { name := "notSupportedJnuEncoding", type := (.object "java/lang/String"), accessFlags := 10, slot := 8, constantValue := 0 }, { name := "cons", type := (.object "java/io/Console"), accessFlags := 74, slot := 9, constantValue := 0 }, { name := "initialErrStream", type := (.object "java/io/PrintStream"), accessFlags := 74, slot := 10, constantValue := 0 }, { name := "props", type := (.object "java/util/Properties"), accessFlags := 10, slot := 11, constantValue := 0 }, { name := "lineSeparator", type := (.object "java/lang/String"), accessFlags := 10, slot := 12, constantValue := 0 }, { name := "bootLayer", type := (.object "java/lang/ModuleLayer"), accessFlags := 8, slot := 13, constantValue := 0 }]
  methods := #[k7m0, k7m1]
  instanceTypes := #[]
  staticTypes := #[(.object "java/io/InputStream"), (.object "java/io/PrintStream"), (.object "java/io/PrintStream"), (.object "java/io/InputStream"), .int, .int, .int, (.object "java/lang/SecurityManager"), (.object "java/lang/String"), (.object "java/io/Console"), (.object "java/io/PrintStream"), (.object "java/util/Properties"), (.object "java/lang/String"), (.object "java/lang/ModuleLayer")]
  resolved := Array.replicate 834 none
  statics := none }

def pool8 : Array CpInfo := pool [(1, u "java/lang/Cloneable"), (0, .class_ 1), (0, u "java/lang/Object"), (0, .class_ 3)] 3

/-- java/lang/Cloneable -/
def k8 : Class := { plain "java/lang/Cloneable" (some 0) with
  accessFlags := 1537
  interfaces := #[]
  cf := some (fileOf pool8 2 #[] #[] 1537 4 #[] #[])
  fields := #[]
  methods := #[]
  instanceTypes := #[]
  staticTypes := #[]
  resolved := Array.replicate 8 none
  statics := none }

def pool9 : Array CpInfo := pool [(1, u "java/io/Serializable"), (0, .class_ 1), (0, u "java/lang/Object"), (0, .class_ 3)] 3

/-- java/io/Serializable -/
def k9 : Class := { plain "java/io/Serializable" (some 0) with
  accessFlags := 1537
  interfaces := #[]
  cf := some (fileOf pool9 2 #[] #[] 1537 4 #[] #[])
  fields := #[]
  methods := #[]
  instanceTypes := #[]
  staticTypes := #[]
  resolved := Array.replicate 8 none
  statics := none }

/-- the primitive byte -/
def k10 : Class := { plain "byte" none with kind := .primitive 'B', accessFlags := 0x411 }
/-- [B -/
def k11 : Class := { plain "[B" (some 0) with kind := .array 10 .byte, interfaces := #[8, 9], accessFlags := 1041 }

/-- the primitive int -/
def k12 : Class := { plain "int" none with kind := .primitive 'I', accessFlags := 0x411 }
/-- [I -/
def k13 : Class := { plain "[I" (some 0) with kind := .array 12 .int, interfaces := #[8, 9], accessFlags := 1041 }

/-- the primitive long -/
def k14 : Class := { plain "long" none with kind := .primitive 'J', accessFlags := 0x411 }
/-- [J -/
def k15 : Class := { plain "[J" (some 0) with kind := .array 14 .long, interfaces := #[8, 9], accessFlags := 1041 }

def heap : Heap := #[{ cls := 3, slots := #[.long 0, .int 0, .int 0, .int 0, .int 0, .int 0, .int 0, .ref 1, .ref 2], vm := .statics 3 },
  { cls := 15, slots := #[], vm := .none },
  { cls := 6, slots := #[], vm := .none }]
def classes : Array Class := #[k0, k1, k2, k3, k4, k5, k6, k7, k8, k9, k10, k11, k12, k13, k14, k15]
def interned : List (Array UInt16 × Addr) := []
def slotsUsed : Nat := 9
def theMethod : MethodId := ⟨1, 1⟩
def args0 : Array Value := #[.long 3, .long 9, .long 20, .long 1, .long 50, .int 770]
def aboutOver (below : List Frame) : State where
  vm := { classes := classes, interned := interned.toArray }
  heap := heap
  slotsUsed := slotsUsed
  threads := #[{ frames := .invoking theMethod args0 :: below }]
def below0 : List Frame := [.native { method := ⟨0, 0⟩, args := #[] }]
def about1 : State := aboutOver below0
def p0 : Program := .bare "" "" ""
def e0 : Env := launch0.env 0 0 0
theorem w_frames : about1.frames = Frame.invoking theMethod args0 :: below0 := rfl
set_option maxRecDepth 65536 in
theorem w_args : argsFit about1.vm theMethod args0 = true := by decide +kernel
set_option maxRecDepth 65536 in
theorem w_heap : heapFits about1 = true := by decide +kernel
set_option maxRecDepth 65536 in
theorem w_runnable : about1.curStatus? = some .runnable := by decide +kernel
set_option maxRecDepth 65536 in
theorem w_alone : about1.alone = true := by decide +kernel
set_option maxRecDepth 65536 in
theorem w_named : about1.methodNamed? x = some theMethod := by decide +kernel
set_option maxRecDepth 65536 in
theorem w_hears : about1.hears theMethod below0 = true := by decide +kernel
set_option maxRecDepth 65536 in
theorem w_ripe : about1.ripe theMethod args0 below0 = true := by decide +kernel
theorem w_running : about1.status = .running := rfl
set_option maxRecDepth 65536 in
theorem w_room : about1.hasRoom e0.platform room_1 = true :=
  launch0.hasRoom_least _ room_1 (by decide +kernel) (by decide +kernel) (by decide +kernel) (by decide +kernel) (by decide +kernel) (by decide +kernel)
theorem allAtoms_all (ts : List Jvm.Cond) (a : Array Jvm.Value) (st : Jvm.State) : (allAtoms ts).before a st = ts.all (fun c => c.before a st) := by
  induction ts with
  | nil => rfl
  | cons c t ih =>
    show (Jvm.Cond.and c (allAtoms t)).before a st = _
    rw [Jvm.Cond.before_and, ih, List.all_cons]
def words1 : List Jvm.Cond := Jvm.Cond.code x code maxLocals ret :: tables_1
/-- a 'code' word, met by the world's own term for the bytes: nothing is compared byte by byte -/
theorem code_word {y : MethodName} {bytes : ByteArray} {mx : Nat} {rt : Option FieldType} {a : Array Value} {s : State} {m : MethodId} {meth : Method} {c : Code} (h1 : s.methodNamed? y = some m) (h2 : s.vm.method? m = some meth) (h3 : meth.code = some c) (h4 : c.code = bytes)
    (h5 : (c.maxLocals == mx && c.exceptionTable.isEmpty && decide (c.maxStack ≤ mostOperands) && decide (meth.sig.returnType = rt) && !meth.locks && decide (parseMethodDescriptor y.desc = some meth.sig)) = true) : (Jvm.Cond.code y bytes mx rt).before a s = true := by
  simp only [Bool.and_eq_true, beq_iff_eq, Bool.not_eq_true', decide_eq_true_eq] at h5
  obtain ⟨⟨⟨⟨⟨g1, g2⟩, g3⟩, g4⟩, g5⟩, g6⟩ := h5
  simp [Cond.before, Cond.holds, Cond.value, h1, h2, h3, h4, g1, g2, g3, g4, g5, g6]
def isCode : Jvm.Cond → Bool
  | .code _ _ _ _ => true
  | _ => false
theorem all_split {L : List Jvm.Cond} {P : Jvm.Cond → Bool} (h1 : L.all (fun c => isCode c || P c) = true) (h2 : ∀ c ∈ L.filter isCode, P c = true) : L.all P = true := by
  refine List.all_eq_true.mpr fun c hc => ?_
  have h := List.all_eq_true.mp h1 c hc
  rcases Bool.eq_false_or_eq_true (isCode c) with hi | hi
  · exact h2 c (List.mem_filter.mpr ⟨hc, hi⟩)
  · simpa [hi] using h
set_option maxRecDepth 65536 in
theorem w_c0 : (Jvm.Cond.code x code maxLocals ret).before args0 about1 = true := code_word (m := ⟨1, 1⟩) (meth := k1m1) (c := k1c1) (by decide +kernel) rfl rfl rfl (by decide +kernel)
set_option maxRecDepth 65536 in
theorem w_c1 : (Jvm.Cond.code ({ cls := "java/lang/Math", name := "min", desc := "(JJ)J" } : Jvm.MethodName) jdk_29_method_70_code (4 : Nat) (Option.some Jvm.ClassFile.FieldType.long)).before args0 about1 = true := code_word (m := ⟨2, 4⟩) (meth := k2m4) (c := k2c4) (by decide +kernel) rfl rfl rfl (by decide +kernel)
set_option maxRecDepth 65536 in
theorem w_c2 : (Jvm.Cond.code ({ cls := "java/lang/Math", name := "max", desc := "(JJ)J" } : Jvm.MethodName) jdk_29_method_66_code (4 : Nat) (Option.some Jvm.ClassFile.FieldType.long)).before args0 about1 = true := code_word (m := ⟨2, 2⟩) (meth := k2m2) (c := k2c2) (by decide +kernel) rfl rfl rfl (by decide +kernel)
set_option maxRecDepth 65536 in
theorem w_c3 : (Jvm.Cond.code ({ cls := "com/example/gapwright/gapwright/profile/CpuProfile", name := "<init>", desc := "(I)V" } : Jvm.MethodName) prog_103_method_1_code (2 : Nat) (Option.none : Option Jvm.ClassFile.FieldType)).before args0 about1 = true := code_word (m := ⟨3, 0⟩) (meth := k3m0) (c := k3c0) (by decide +kernel) rfl rfl rfl (by decide +kernel)
set_option maxRecDepth 65536 in
theorem w_c4 : (Jvm.Cond.code ({ cls := "java/lang/Object", name := "<init>", desc := "()V" } : Jvm.MethodName) object_method_1_code (1 : Nat) (Option.none : Option Jvm.ClassFile.FieldType)).before args0 about1 = true := code_word (m := ⟨0, 0⟩) (meth := k0m0) (c := k0c0) (by decide +kernel) rfl rfl rfl (by decide +kernel)
set_option maxRecDepth 65536 in
theorem w_c5 : (Jvm.Cond.code ({ cls := "com/example/gapwright/gapwright/profile/FreeRuns", name := "<init>", desc := "(Lcom/example/gapwright/gapwright/profile/CpuProfile;)V" } : Jvm.MethodName) prog_119_method_1_code (2 : Nat) (Option.none : Option Jvm.ClassFile.FieldType)).before args0 about1 = true := code_word (m := ⟨4, 0⟩) (meth := k4m0) (c := k4c0) (by decide +kernel) rfl rfl rfl (by decide +kernel)
set_option maxRecDepth 65536 in
theorem w_c6 : (Jvm.Cond.code ({ cls := "com/example/gapwright/gapwright/profile/CpuProfile", name := "book", desc := "(JJI)V" } : Jvm.MethodName) prog_103_method_31_code (6 : Nat) (Option.none : Option Jvm.ClassFile.FieldType)).before args0 about1 = true := code_word (m := ⟨3, 3⟩) (meth := k3m3) (c := k3c3) (by decide +kernel) rfl rfl rfl (by decide +kernel)
set_option maxRecDepth 65536 in
theorem w_c7 : (Jvm.Cond.code ({ cls := "com/example/gapwright/gapwright/profile/CpuProfile", name := "add", desc := "(JJI)V" } : Jvm.MethodName) prog_103_method_41_code (10 : Nat) (Option.none : Option Jvm.ClassFile.FieldType)).before args0 about1 = true := code_word (m := ⟨3, 5⟩) (meth := k3m5) (c := k3c5) (by decide +kernel) rfl rfl rfl (by decide +kernel)
set_option maxRecDepth 65536 in
theorem w_c8 : (Jvm.Cond.code ({ cls := "com/example/gapwright/gapwright/profile/CpuProfile", name := "countsChanged", desc := "()V" } : Jvm.MethodName) prog_103_method_26_code (1 : Nat) (Option.none : Option Jvm.ClassFile.FieldType)).before args0 about1 = true := code_word (m := ⟨3, 2⟩) (meth := k3m2) (c := k3c2) (by decide +kernel) rfl rfl rfl (by decide +kernel)
set_option maxRecDepth 65536 in
theorem w_c9 : (Jvm.Cond.code ({ cls := "com/example/gapwright/gapwright/profile/CpuProfile$1", name := "booked", desc := "(I)V" } : Jvm.MethodName) prog_104_method_2_code (2 : Nat) (Option.none : Option Jvm.ClassFile.FieldType)).before args0 about1 = true := code_word (m := ⟨6, 1⟩) (meth := k6m1) (c := k6c1) (by decide +kernel) rfl rfl rfl (by decide +kernel)
set_option maxRecDepth 65536 in
theorem w_c10 : (Jvm.Cond.code ({ cls := "com/example/gapwright/gapwright/profile/CpuProfile", name := "room", desc := "(I)I" } : Jvm.MethodName) prog_103_method_37_code (6 : Nat) (Option.some Jvm.ClassFile.FieldType.int)).before args0 about1 = true := code_word (m := ⟨3, 4⟩) (meth := k3m4) (c := k3c4) (by decide +kernel) rfl rfl rfl (by decide +kernel)
set_option maxRecDepth 65536 in
theorem w_c11 : (Jvm.Cond.code ({ cls := "com/example/gapwright/gapwright/profile/CpuProfile", name := "split", desc := "(J)I" } : Jvm.MethodName) prog_103_method_45_code (4 : Nat) (Option.some Jvm.ClassFile.FieldType.int)).before args0 about1 = true := code_word (m := ⟨3, 9⟩) (meth := k3m9) (c := k3c9) (by decide +kernel) rfl rfl rfl (by decide +kernel)
set_option maxRecDepth 65536 in
theorem w_c12 : (Jvm.Cond.code ({ cls := "com/example/gapwright/gapwright/profile/CpuProfile", name := "segmentAt", desc := "(J)I" } : Jvm.MethodName) prog_103_method_43_code (4 : Nat) (Option.some Jvm.ClassFile.FieldType.int)).before args0 about1 = true := code_word (m := ⟨3, 7⟩) (meth := k3m7) (c := k3c7) (by decide +kernel) rfl rfl rfl (by decide +kernel)
set_option maxRecDepth 65536 in
theorem w_c13 : (Jvm.Cond.code ({ cls := "com/example/gapwright/gapwright/profile/FreeRuns", name := "inserted", desc := "(I)V" } : Jvm.MethodName) prog_119_method_3_code (4 : Nat) (Option.none : Option Jvm.ClassFile.FieldType)).before args0 about1 = true := code_word (m := ⟨4, 2⟩) (meth := k4m2) (c := k4c2) (by decide +kernel) rfl rfl rfl (by decide +kernel)
set_option maxRecDepth 65536 in
theorem w_c14 : (Jvm.Cond.code ({ cls := "com/example/gapwright/gapwright/profile/CpuProfile", name := "placeAtOrBefore", desc := "([JIIIJ)I" } : Jvm.MethodName) prog_103_method_44_code (9 : Nat) (Option.some Jvm.ClassFile.FieldType.int)).before args0 about1 = true := code_word (m := ⟨3, 8⟩) (meth := k3m8) (c := k3c8) (by decide +kernel) rfl rfl rfl (by decide +kernel)
set_option maxRecDepth 65536 in
theorem w_c15 : (Jvm.Cond.code ({ cls := "java/lang/Math", name := "min", desc := "(II)I" } : Jvm.MethodName) jdk_29_method_69_code (2 : Nat) (Option.some Jvm.ClassFile.FieldType.int)).before args0 about1 = true := code_word (m := ⟨2, 3⟩) (meth := k2m3) (c := k2c3) (by decide +kernel) rfl rfl rfl (by decide +kernel)
set_option maxRecDepth 65536 in
theorem w_c16 : (Jvm.Cond.code ({ cls := "com/example/gapwright/gapwright/profile/CpuProfile", name := "check", desc := "(IJ)V" } : Jvm.MethodName) prog_103_method_42_code (4 : Nat) (Option.none : Option Jvm.ClassFile.FieldType)).before args0 about1 = true := code_word (m := ⟨3, 6⟩) (meth := k3m6) (c := k3c6) (by decide +kernel) rfl rfl rfl (by decide +kernel)
set_option maxRecDepth 65536 in
theorem w_c17 : (Jvm.Cond.code ({ cls := "com/example/gapwright/gapwright/profile/FreeRuns", name := "changed", desc := "(II)V" } : Jvm.MethodName) prog_119_method_2_code (4 : Nat) (Option.none : Option Jvm.ClassFile.FieldType)).before args0 about1 = true := code_word (m := ⟨4, 1⟩) (meth := k4m1) (c := k4c1) (by decide +kernel) rfl rfl rfl (by decide +kernel)
set_option maxRecDepth 65536 in
theorem w_c18 : (Jvm.Cond.code ({ cls := "com/example/gapwright/gapwright/profile/CpuProfile", name := "mergeWithPrevious", desc := "(I)V" } : Jvm.MethodName) prog_103_method_46_code (2 : Nat) (Option.none : Option Jvm.ClassFile.FieldType)).before args0 about1 = true := code_word (m := ⟨3, 10⟩) (meth := k3m10) (c := k3c10) (by decide +kernel) rfl rfl rfl (by decide +kernel)
set_option maxRecDepth 65536 in
theorem w_c19 : (Jvm.Cond.code ({ cls := "com/example/gapwright/gapwright/profile/CpuProfile", name := "changedOver", desc := "(JJJ)Z" } : Jvm.MethodName) prog_103_method_24_code (10 : Nat) (Option.some Jvm.ClassFile.FieldType.boolean)).before args0 about1 = true := code_word (m := ⟨3, 1⟩) (meth := k3m1) (c := k3c1) (by decide +kernel) rfl rfl rfl (by decide +kernel)
set_option maxRecDepth 65536 in
theorem w_c20 : (Jvm.Cond.code ({ cls := "com/example/gapwright/gapwright/profile/CpuProfileChangedOverPinLaw", name := "after", desc := "(III)Z" } : Jvm.MethodName) method_3_code (3 : Nat) (Option.some Jvm.ClassFile.FieldType.boolean)).before args0 about1 = true := code_word (m := ⟨1, 2⟩) (meth := k1m2) (c := k1c2) (by decide +kernel) rfl rfl rfl (by decide +kernel)
set_option maxRecDepth 65536 in
theorem w_c21 : (Jvm.Cond.code ({ cls := "com/example/gapwright/gapwright/profile/CpuProfileChangedOverPinLaw", name := "meets", desc := "(JJJJ)Z" } : Jvm.MethodName) method_4_code (8 : Nat) (Option.some Jvm.ClassFile.FieldType.boolean)).before args0 about1 = true := code_word (m := ⟨1, 3⟩) (meth := k1m3) (c := k1c3) (by decide +kernel) rfl rfl rfl (by decide +kernel)
set_option maxRecDepth 65536 in
theorem w_c22 : (Jvm.Cond.code ({ cls := "java/lang/Math", name := "max", desc := "(II)I" } : Jvm.MethodName) jdk_29_method_65_code (2 : Nat) (Option.some Jvm.ClassFile.FieldType.int)).before args0 about1 = true := code_word (m := ⟨2, 1⟩) (meth := k2m1) (c := k2c1) (by decide +kernel) rfl rfl rfl (by decide +kernel)
set_option maxRecDepth 65536 in
theorem w_c23 : (Jvm.Cond.code ({ cls := "com/example/gapwright/gapwright/profile/FreeRuns", name := "moved", desc := "()V" } : Jvm.MethodName) prog_119_method_5_code (1 : Nat) (Option.none : Option Jvm.ClassFile.FieldType)).before args0 about1 = true := code_word (m := ⟨4, 4⟩) (meth := k4m4) (c := k4c4) (by decide +kernel) rfl rfl rfl (by decide +kernel)
set_option maxRecDepth 65536 in
theorem w_c24 : (Jvm.Cond.code ({ cls := "com/example/gapwright/gapwright/profile/FreeRuns", name := "removed", desc := "(I)V" } : Jvm.MethodName) prog_119_method_4_code (4 : Nat) (Option.none : Option Jvm.ClassFile.FieldType)).before args0 about1 = true := code_word (m := ⟨4, 3⟩) (meth := k4m3) (c := k4c3) (by decide +kernel) rfl rfl rfl (by decide +kernel)
def codes1 : List Jvm.Cond := [Jvm.Cond.code x code maxLocals ret, Jvm.Cond.code ({ cls := "java/lang/Math", name := "min", desc := "(JJ)J" } : Jvm.MethodName) jdk_29_method_70_code (4 : Nat) (Option.some Jvm.ClassFile.FieldType.long), Jvm.Cond.code ({ cls := "java/lang/Math", name := "max", desc := "(JJ)J" } : Jvm.MethodName) jdk_29_method_66_code (4 : Nat) (Option.some Jvm.ClassFile.FieldType.long), Jvm.Cond.code ({ cls := "com/example/gapwright/gapwright/profile/CpuProfile", name := "<init>", desc := "(I)V" } : Jvm.MethodName) prog_103_method_1_code (2 : Nat) (Option.none : Option Jvm.ClassFile.FieldType), Jvm.Cond.code ({ cls := "java/lang/Object", name := "<init>", desc := "()V" } : Jvm.MethodName) object_method_1_code (1 : Nat) (Option.none : Option Jvm.ClassFile.FieldType), Jvm.Cond.code ({ cls := "com/example/gapwright/gapwright/profile/FreeRuns", name := "<init>", desc := "(Lcom/example/gapwright/gapwright/profile/CpuProfile;)V" } : Jvm.MethodName) prog_119_method_1_code (2 : Nat) (Option.none : Option Jvm.ClassFile.FieldType), Jvm.Cond.code ({ cls := "com/example/gapwright/gapwright/profile/CpuProfile", name := "book", desc := "(JJI)V" } : Jvm.MethodName) prog_103_method_31_code (6 : Nat) (Option.none : Option Jvm.ClassFile.FieldType), Jvm.Cond.code ({ cls := "com/example/gapwright/gapwright/profile/CpuProfile", name := "add", desc := "(JJI)V" } : Jvm.MethodName) prog_103_method_41_code (10 : Nat) (Option.none : Option Jvm.ClassFile.FieldType), Jvm.Cond.code ({ cls := "com/example/gapwright/gapwright/profile/CpuProfile", name := "countsChanged", desc := "()V" } : Jvm.MethodName) prog_103_method_26_code (1 : Nat) (Option.none : Option Jvm.ClassFile.FieldType), Jvm.Cond.code ({ cls := "com/example/gapwright/gapwright/profile/CpuProfile$1", name := "booked", desc := "(I)V" } : Jvm.MethodName) prog_104_method_2_code (2 : Nat) (Option.none : Option Jvm.ClassFile.FieldType), Jvm.Cond.code ({ cls := "com/example/gapwright/gapwright/profile/CpuProfile", name := "room", desc := "(I)I" } : Jvm.MethodName) prog_103_method_37_code (6 : Nat) (Option.some Jvm.ClassFile.FieldType.int), Jvm.Cond.code ({ cls := "com/example/gapwright/gapwright/profile/CpuProfile", name := "split", desc := "(J)I" } : Jvm.MethodName) prog_103_method_45_code (4 : Nat) (Option.some Jvm.ClassFile.FieldType.int), Jvm.Cond.code ({ cls := "com/example/gapwright/gapwright/profile/CpuProfile", name := "segmentAt", desc := "(J)I" } : Jvm.MethodName) prog_103_method_43_code (4 : Nat) (Option.some Jvm.ClassFile.FieldType.int), Jvm.Cond.code ({ cls := "com/example/gapwright/gapwright/profile/FreeRuns", name := "inserted", desc := "(I)V" } : Jvm.MethodName) prog_119_method_3_code (4 : Nat) (Option.none : Option Jvm.ClassFile.FieldType), Jvm.Cond.code ({ cls := "com/example/gapwright/gapwright/profile/CpuProfile", name := "placeAtOrBefore", desc := "([JIIIJ)I" } : Jvm.MethodName) prog_103_method_44_code (9 : Nat) (Option.some Jvm.ClassFile.FieldType.int), Jvm.Cond.code ({ cls := "java/lang/Math", name := "min", desc := "(II)I" } : Jvm.MethodName) jdk_29_method_69_code (2 : Nat) (Option.some Jvm.ClassFile.FieldType.int), Jvm.Cond.code ({ cls := "com/example/gapwright/gapwright/profile/CpuProfile", name := "check", desc := "(IJ)V" } : Jvm.MethodName) prog_103_method_42_code (4 : Nat) (Option.none : Option Jvm.ClassFile.FieldType), Jvm.Cond.code ({ cls := "com/example/gapwright/gapwright/profile/FreeRuns", name := "changed", desc := "(II)V" } : Jvm.MethodName) prog_119_method_2_code (4 : Nat) (Option.none : Option Jvm.ClassFile.FieldType), Jvm.Cond.code ({ cls := "com/example/gapwright/gapwright/profile/CpuProfile", name := "mergeWithPrevious", desc := "(I)V" } : Jvm.MethodName) prog_103_method_46_code (2 : Nat) (Option.none : Option Jvm.ClassFile.FieldType), Jvm.Cond.code ({ cls := "com/example/gapwright/gapwright/profile/CpuProfile", name := "changedOver", desc := "(JJJ)Z" } : Jvm.MethodName) prog_103_method_24_code (10 : Nat) (Option.some Jvm.ClassFile.FieldType.boolean), Jvm.Cond.code ({ cls := "com/example/gapwright/gapwright/profile/CpuProfileChangedOverPinLaw", name := "after", desc := "(III)Z" } : Jvm.MethodName) method_3_code (3 : Nat) (Option.some Jvm.ClassFile.FieldType.boolean), Jvm.Cond.code ({ cls := "com/example/gapwright/gapwright/profile/CpuProfileChangedOverPinLaw", name := "meets", desc := "(JJJJ)Z" } : Jvm.MethodName) method_4_code (8 : Nat) (Option.some Jvm.ClassFile.FieldType.boolean), Jvm.Cond.code ({ cls := "java/lang/Math", name := "max", desc := "(II)I" } : Jvm.MethodName) jdk_29_method_65_code (2 : Nat) (Option.some Jvm.ClassFile.FieldType.int), Jvm.Cond.code ({ cls := "com/example/gapwright/gapwright/profile/FreeRuns", name := "moved", desc := "()V" } : Jvm.MethodName) prog_119_method_5_code (1 : Nat) (Option.none : Option Jvm.ClassFile.FieldType), Jvm.Cond.code ({ cls := "com/example/gapwright/gapwright/profile/FreeRuns", name := "removed", desc := "(I)V" } : Jvm.MethodName) prog_119_method_4_code (4 : Nat) (Option.none : Option Jvm.ClassFile.FieldType)]
set_option maxRecDepth 65536 in
theorem codes_eq : words1.filter isCode = codes1 := rfl
theorem w_codes : ∀ c ∈ words1.filter isCode, c.before args0 about1 = true := by
  rw [codes_eq]
  intro c hc
  simp only [codes1, List.mem_cons, List.not_mem_nil, or_false] at hc
  rcases hc with rfl | rfl | rfl | rfl | rfl | rfl | rfl | rfl | rfl | rfl | rfl | rfl | rfl | rfl | rfl | rfl | rfl | rfl | rfl | rfl | rfl | rfl | rfl | rfl | rfl
  · exact w_c0
  · exact w_c1
  · exact w_c2
  · exact w_c3
  · exact w_c4
  · exact w_c5
  · exact w_c6
  · exact w_c7
  · exact w_c8
  · exact w_c9
  · exact w_c10
  · exact w_c11
  · exact w_c12
  · exact w_c13
  · exact w_c14
  · exact w_c15
  · exact w_c16
  · exact w_c17
  · exact w_c18
  · exact w_c19
  · exact w_c20
  · exact w_c21
  · exact w_c22
  · exact w_c23
  · exact w_c24
set_option maxRecDepth 65536 in
theorem w_t1 : (words1.take 24).all (fun c => isCode c || c.before args0 about1) = true := by decide +kernel
set_option maxRecDepth 65536 in
theorem w_t2 : ((words1.drop 24).take 24).all (fun c => isCode c || c.before args0 about1) = true := by decide +kernel
set_option maxRecDepth 65536 in
theorem w_t3 : (((words1.drop 24).drop 24).take 24).all (fun c => isCode c || c.before args0 about1) = true := by decide +kernel
set_option maxRecDepth 65536 in
theorem w_t4 : ((((words1.drop 24).drop 24).drop 24).take 24).all (fun c => isCode c || c.before args0 about1) = true := by decide +kernel
set_option maxRecDepth 65536 in
theorem w_t5 : (((((words1.drop 24).drop 24).drop 24).drop 24).take 24).all (fun c => isCode c || c.before args0 about1) = true := by decide +kernel
set_option maxRecDepth 65536 in
theorem w_t6 : ((((((words1.drop 24).drop 24).drop 24).drop 24).drop 24).take 24).all (fun c => isCode c || c.before args0 about1) = true := by decide +kernel
set_option maxRecDepth 65536 in
theorem w_t7 : (((((((words1.drop 24).drop 24).drop 24).drop 24).drop 24).drop 24).take 24).all (fun c => isCode c || c.before args0 about1) = true := by decide +kernel
set_option maxRecDepth 65536 in
theorem w_t8 : (((((((words1.drop 24).drop 24).drop 24).drop 24).drop 24).drop 24).drop 24).all (fun c => isCode c || c.before args0 about1) = true := by decide +kernel
theorem w_tables : (allAtoms (Jvm.Cond.code x code maxLocals ret :: tables_1)).before args0 about1 = true := by
  rw [allAtoms_all]
  show words1.all (fun c => c.before args0 about1) = true
  refine all_split ?_ w_codes
  rw [← List.take_append_drop 24 words1, List.all_append, w_t1, ← List.take_append_drop 24 (words1.drop 24), List.all_append, w_t2, ← List.take_append_drop 24 ((words1.drop 24).drop 24), List.all_append, w_t3, ← List.take_append_drop 24 (((words1.drop 24).drop 24).drop 24), List.all_append, w_t4, ← List.take_append_drop 24 ((((words1.drop 24).drop 24).drop 24).drop 24), List.all_append, w_t5, ← List.take_append_drop 24 (((((words1.drop 24).drop 24).drop 24).drop 24).drop 24), List.all_append, w_t6, ← List.take_append_drop 24 ((((((words1.drop 24).drop 24).drop 24).drop 24).drop 24).drop 24), List.all_append, w_t7, w_t8]
  rfl
set_option maxRecDepth 65536 in
theorem w_case : (Jvm.Cond.and given_1 narrow_1).before args0 about1 = true := by decide +kernel
theorem w_applies : (headSpec (Jvm.Cond.code x code maxLocals ret :: tables_1) room_1).applies x e0.platform about1 = true :=
  (Spec.applies_iff w_frames).mpr ⟨w_running, w_runnable, w_alone, w_named, w_hears, w_ripe, w_room, w_tables⟩
theorem atStart : AtStart classFile x code maxLocals ret World_1 tables_1 room_1 Calls_1 rest_1 Pre_1 launch0 p0 e0 about1 theMethod args0 below0 :=
  ⟨lists_1, trivial, launch0.admits_env _ _ _, launch0.least_env, fairChoices_fair.cas, fairChoices_fair.clock, w_frames, w_args, w_heap, w_applies, trivial, trivial, w_case⟩
end start1
theorem witness_1 : WitnessClaimed_1 := ⟨start1.p0, start1.e0, start1.about1, start1.theMethod, start1.args0, start1.below0, start1.atStart⟩
end Jvm.Pilot.@@N@@
