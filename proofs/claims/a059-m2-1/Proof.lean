import JvmDerived
import JvmDerived.Pilot.@@N@@Statement
import JvmDerived.Pilot.@@N@@Code
set_option linter.unusedVariables false
set_option linter.unusedSimpArgs false
namespace Jvm.Pilot.@@N@@
open Jvm Jvm.ClassFile Sem Op Lib Jvm.Free Jvm.Stand Jvm.LawKit Jvm.RoadKit Bundle Jvm.Pilot.@@N@@.Jvm.D
/-! own: a walk carried forward as a goal, with forks -/
def own_G (p : Program) (e : Env) (below : List Frame) (s : State) (Q : Option Value → Heap → List Loc → Prop) (C S : Nat) (T : State) (f : JFrame) : Prop :=
  ∃ s₂ o, Steps p.tables e below (T.setTop f) s₂ ∧ s₂.status = .running ∧ Ended s₂ below o ∧ ∃ v L, o = .returned v ∧ Q v s₂.heap L ∧ FrameEnd s o s₂ L C S
abbrev own_C0 (l : Launch) (y : MethodName) (bytes : ByteArray) (maxL : Nat) (ret : Option FieldType) (ws : List Jvm.Cond) (rm : Room) (Z : State) (h : Heap) (as' : Array Value) (Q : Option Value → Heap → List Loc → Prop) (C S : Nat) : Prop :=
  MetFree l y (head1 (Jvm.Cond.code y bytes maxL ret :: ws) rm) (fun a U => a = as' ∧ Z.Warmed39 U.vm ∧ U.heap = h) (fun _ _ _ _ _ => True) (fun _ U o U' => ∃ v L, o = .returned v ∧ Q v U'.heap L ∧ FrameEnd U o U' L C S)
abbrev own_C (l : Launch) (y : MethodName) (bytes : ByteArray) (maxL : Nat) (ret : Option FieldType) (rm : Room) (Z : State) (h : Heap) (as' : Array Value) (Q : Option Value → Heap → List Loc → Prop) : Prop :=
  own_C0 l y bytes maxL ret [] rm Z h as' Q rm.cells rm.slots
/-- what a body says that writes nothing: its value -/
def own_P (r : Option Value) (h0 : Heap) (v : Option Value) (h : Heap) (L : List Loc) : Prop := v = r ∧ L = [] ∧ h = h0
abbrev own_R (f c n k : Nat) : Room := { frames := f, cells := c, slots := n, locals := k }
theorem own_body {l : Launch} {y : MethodName} {bytes : ByteArray} {maxL : Nat} {ret : Option FieldType} {ws : List Jvm.Cond} {rm : Room} {Z : State} {h0 : Heap} {as' : Array Value} {Q : Option Value → Heap → List Loc → Prop} {C S : Nat} (hpn : plainFor y = true)
    (body : ∀ p e s m below meth c s₁, p.tables.exec = Jvm.exec → c.code = bytes → c.maxLocals = maxL → Z.Warmed39 s.vm → s.vm.findClass y.cls = some m.cls → meth.name = y.name → meth.sig.returnType = ret → meth.locks = false →
      Stand p l e rm s m as' below meth c s₁ [] 0 0 → s₁.heap = h0 → own_G p e below s Q C S s₁ (entryFrame m as' maxL)) : own_C0 l y bytes maxL ret ws rm Z h0 as' Q C S := by
  refine MetFree.of_bodySF hpn hisR ?_
  intro p e s m args below meth c s₁ Bd hml hP hK
  obtain ⟨rfl, hZ, hh⟩ := hP
  exact body p e s m below meth c s₁ Bd.exec Bd.bytes hml hZ (findClass_of_methodNamed Bd.named) (name_of_methodNamed Bd.named Bd.method).1 Bd.returns Bd.notSynchronized (Stand.of_body Bd) (by rw [← hh, Bd.state]; rfl)
section Own
variable {p : Program} {l : Launch} {e : Env} {R : Room} {s : State} {m : MethodId} {args : Array Value} {below : List Frame} {meth : Method} {c : Code} {T T' : State} {locs : List Loc} {cells slots : Nat} {Q : Option Value → Heap → List Loc → Prop} {C S : Nat} {f f' : JFrame} {Z : State} {a0 : Array Value} {h : Heap}
theorem own_st (k : ∀ target, Steps p.tables e below (T'.setTop f') target → Steps p.tables e below (T.setTop f) target) (g : own_G p e below s Q C S T' f') : own_G p e below s Q C S T f := by
  obtain ⟨t, o, h1, h2⟩ := g
  exact ⟨t, o, k t h1, h2⟩
theorem own_cast (q : f = f') (g : own_G p e below s Q C S T f') : own_G p e below s Q C S T f := q ▸ g
theorem own_end {v : Option Value} (X : Stand p l e R s m args below meth c T locs cells slots) (hlk : meth.locks = false) (hv : meth.sig.returnType = none → v = none)
    (k : ∀ fs, (∀ (f : JFrame) (acts : List Action), f.method = m → f.locked = none → f.entered = [] → (doReturn e (T.setTop f) acts v).1 = T.setFrames fs) → Steps p.tables e below (T.setTop f) (T.setFrames fs))
    (hq : Q v T.heap locs) (hC : cells ≤ C) (hS : slots ≤ S) : own_G p e below s Q C S T f := by
  obtain ⟨fs, hr, hrun, hended, hW, hsame⟩ := X.leave (v := v) hv hlk
  exact ⟨_, _, k fs hr, hrun, hended, v, locs, rfl, hq, ⟨_, rfl⟩, hW, hsame.mono hC hS⟩
theorem own_retI (X : Stand p l e R s m args below meth c T locs cells slots) (hx : p.tables.exec = Jvm.exec) (hlk : meth.locks = false) (hret : meth.sig.returnType = some .int) {pc : Nat} {Ls : Array Slot} {z : Int32} {rest : List Value} (hd : decode c.code pc = .ok (.ireturn, 1))
    (hq : Q (some (.int z)) T.heap locs) (hC : cells ≤ C) (hS : slots ≤ S) : own_G p e below s Q C S T (mkF m pc Ls (.int z :: rest)) :=
  own_end X hlk (fun h => by rw [hret] at h; cases h) (fun fs hr => retOut X hx hret rfl (Or.inl ⟨rfl, Or.inl rfl, z, rfl⟩) hd hr) hq hC hS
theorem own_retN (X : Stand p l e R s m args below meth c T locs cells slots) (hx : p.tables.exec = Jvm.exec) (hlk : meth.locks = false) {t : FieldType} (hret : meth.sig.returnType = some t) (ht : t = .boolean ∨ t = .byte ∨ t = .char ∨ t = .short) {pc : Nat} {Ls : Array Slot} {z : Int32} {rest : List Value} (hd : decode c.code pc = .ok (.ireturn, 1))
    (hq : Q (some (.int (nar t z))) T.heap locs) (hC : cells ≤ C) (hS : slots ≤ S) : own_G p e below s Q C S T (mkF m pc Ls (.int z :: rest)) :=
  own_end X hlk (fun h => by rw [hret] at h; cases h) (fun fs hr => retN X hx hret ht hd hr) hq hC hS
theorem own_retJ (X : Stand p l e R s m args below meth c T locs cells slots) (hx : p.tables.exec = Jvm.exec) (hlk : meth.locks = false) (hret : meth.sig.returnType = some .long) {pc : Nat} {Ls : Array Slot} {z : Int64} {rest : List Value} (hd : decode c.code pc = .ok (.lreturn, 1))
    (hq : Q (some (.long z)) T.heap locs) (hC : cells ≤ C) (hS : slots ≤ S) : own_G p e below s Q C S T (mkF m pc Ls (.long z :: rest)) :=
  own_end X hlk (fun h => by rw [hret] at h; cases h) (fun fs hr => retOut X hx hret rfl (Or.inr (Or.inl ⟨rfl, rfl, z, rfl⟩)) hd hr) hq hC hS
theorem own_retA (X : Stand p l e R s m args below meth c T locs cells slots) (hx : p.tables.exec = Jvm.exec) (hlk : meth.locks = false) {t : FieldType} (hret : meth.sig.returnType = some t) (ht : t.isReference = true) {w : Value} (hw : w.isRef = true) {pc : Nat} {Ls : Array Slot} {rest : List Value} (hd : decode c.code pc = .ok (.areturn, 1))
    (hq : Q (some w) T.heap locs) (hC : cells ≤ C) (hS : slots ≤ S) : own_G p e below s Q C S T (mkF m pc Ls (w :: rest)) :=
  own_end X hlk (fun h => by rw [hret] at h; cases h) (fun fs hr => retOut X hx hret (by rcases ref_cases hw with rfl | ⟨a, rfl⟩ <;> cases t <;> first | rfl | (cases ht)) (Or.inr (Or.inr (Or.inr (Or.inr ⟨rfl, ht, hw⟩)))) hd hr) hq hC hS
theorem own_retV (X : Stand p l e R s m args below meth c T locs cells slots) (hx : p.tables.exec = Jvm.exec) (hlk : meth.locks = false) (hret : meth.sig.returnType = none) {pc : Nat} {Ls : Array Slot} (hd : decode c.code pc = .ok (.return_, 1))
    (hq : Q none T.heap locs) (hC : cells ≤ C) (hS : slots ≤ S) : own_G p e below s Q C S T (mkF m pc Ls []) :=
  own_end X hlk (fun _ => rfl) (fun fs hr => X.returnOut hx hret hd hr) hq hC hS
/-! calls by a contract: one row each -/
theorem own_callS (X : Stand p l e R s m args below meth c T locs cells slots) (hx : p.tables.exec = Jvm.exec) (hZ : Z.Warmed39 s.vm) (eT : T.heap = h) {own : String} {index : Nat} {y : MethodName} (hown : s.vm.findClass own = some m.cls) (w1 : (Cond.methodLink own index y).before a0 Z = true) (w2 : (Cond.static y).before a0 Z = true)
    (hy : y.cls ≠ "java/lang/invoke/MethodHandle" ∧ y.cls ≠ "java/lang/invoke/VarHandle") {bytes : ByteArray} {maxL : Nat} {ret : Option FieldType} {rm : Room} {as' : Array Value} (wc : (Cond.code y bytes maxL ret).before a0 Z = true) (wz : (Cond.initialized y.cls).before a0 Z = true) (hM : own_C l y bytes maxL ret rm Z h as' Q)
    {g : JFrame} (hg : g.method = m) (hsize : g.locals.size = c.maxLocals) (hmr : g.monitorRoom = 0) {argsL rest : List Value} (has : argsL.toArray = as') (hlen : ∀ sig, parseMethodDescriptor y.desc = some sig → argsL.length = sig.parameters.length) (hstack : g.stack = argsL.reverse ++ rest) (hd : decode c.code g.pc = .ok (.invokestatic index, 3))
    (hf : rm.frames + 1 ≤ R.frames) (hl : (rest.map fun v => v.category).sum + (maxL + 11) + rm.locals ≤ R.locals) (hc : cells + rm.cells ≤ R.cells) (hs : slots + rm.slots ≤ R.slots) :
    ∃ v T' L, Q v T'.heap L ∧ Stand p l e R s m args below meth c T' (locs ++ L) (cells + rm.cells) (slots + rm.slots) ∧ ∀ target, Steps p.tables e below (T'.setTop { g with pc := g.pc + 3, stack := v.toList ++ rest }) target → Steps p.tables e below (T.setTop g) target := by
  obtain ⟨v, _, ⟨T1, L1, k1, n1⟩, -, X1, ⟨Lc, hQ, l1, y1, z1⟩, st⟩ := Jvm.LawKit.callS X hx (y := y) hown (mvT hZ w1) (mvT hZ w2) (mvT hZ wz) (mvT hZ wc) hy (backOf (W := (rest.map fun v => v.category).sum) hM hZ wc wz hf hl) hg hsize (argsL := argsL) (rest := rest) hlen hstack (by rw [hmr]; omega) hd (fun _ _ => ⟨has, eT, hc, hs⟩)
  dsimp only [Pt.U, Pt.locs, Pt.cells, Pt.slots] at X1 l1 y1 z1 st hQ
  subst l1 y1 z1
  exact ⟨v, T1, Lc, hQ, X1, st⟩
theorem own_callN (X : Stand p l e R s m args below meth c T locs cells slots) (hx : p.tables.exec = Jvm.exec) (hZ : Z.Warmed39 s.vm) (eT : T.heap = h) {own : String} {index : Nat} {y : MethodName} (hown : s.vm.findClass own = some m.cls) (hy1 : y.name = "<init>") (w1 : (Cond.methodLink own index y).before a0 Z = true) (w2 : (Cond.instanceMethod y).before a0 Z = true)
    (hy : y.cls ≠ "java/lang/invoke/MethodHandle" ∧ y.cls ≠ "java/lang/invoke/VarHandle") {a : Addr} {bytes : ByteArray} {maxL : Nat} {rm : Room} {as' : Array Value} (wc : (Cond.code y bytes maxL none).before a0 Z = true) (wz : (Cond.initialized y.cls).before a0 Z = true) (hM : own_C l y bytes maxL none rm Z h as' Q)
    {g : JFrame} (hg : g.method = m) (hsize : g.locals.size = c.maxLocals) (hmr : g.monitorRoom = 0) {argsL rest : List Value} (has : (Value.ref a :: argsL).toArray = as') (hlen : ∀ sig, parseMethodDescriptor y.desc = some sig → argsL.length = sig.parameters.length) (hstack : g.stack = argsL.reverse ++ .ref a :: rest) (hd : decode c.code g.pc = .ok (.invokespecial index, 3))
    (hf : rm.frames + 1 ≤ R.frames) (hl : (rest.map fun v => v.category).sum + (maxL + 11) + rm.locals ≤ R.locals) (hc : cells + rm.cells ≤ R.cells) (hs : slots + rm.slots ≤ R.slots) :
    ∃ v T' L, Q v T'.heap L ∧ Stand p l e R s m args below meth c T' (locs ++ L) (cells + rm.cells) (slots + rm.slots) ∧ ∀ target, Steps p.tables e below (T'.setTop { g with pc := g.pc + 3, stack := v.toList ++ rest }) target → Steps p.tables e below (T.setTop g) target := by
  obtain ⟨v, _, ⟨T1, L1, k1, n1⟩, -, X1, ⟨Lc, hQ, l1, y1, z1⟩, st⟩ := X.specialBack hx (y := y) hy1 hown (mvT hZ w1) (mvT hZ w2) (mvT hZ wc) hy (backOf (W := (rest.map fun v => v.category).sum) hM hZ wc wz hf hl) hg hsize (Steps.refl _) (a := a) (argsL := argsL) (rest := rest) hlen hstack (by rw [hmr]; omega) hd (fun _ _ => ⟨has, eT, hc, hs⟩)
  dsimp only [Pt.U, Pt.locs, Pt.cells, Pt.slots] at X1 l1 y1 z1 st hQ
  subst l1 y1 z1
  exact ⟨v, T1, Lc, hQ, X1, fun _ k => st.trans k⟩
theorem own_callV' (X : Stand p l e R s m args below meth c T locs cells slots) (hx : p.tables.exec = Jvm.exec) (hZ : Z.Warmed39 s.vm) (eT : T.heap = h) {own K : String} {index : Nat} {y z : MethodName} (hown : s.vm.findClass own = some m.cls) (w1 : (Cond.methodLink own index y).before a0 Z = true) (w2 : (Cond.declares y).before a0 Z = true) (hnf : NotFace s y) (w3 : (Cond.selects K y z).before a0 Z = true) (w4 : (Cond.instanceMethod z).before a0 Z = true)
    (hy : y.cls ≠ "java/lang/invoke/MethodHandle" ∧ y.cls ≠ "java/lang/invoke/VarHandle") {b : Addr} (E : Exa Z h b K) {bytes : ByteArray} {maxL : Nat} {ret : Option FieldType} {rm : Room} {as' : Array Value} (wc : (Cond.code z bytes maxL ret).before a0 Z = true) (wz : (Cond.initialized z.cls).before a0 Z = true) (hM : own_C l z bytes maxL ret rm Z h as' Q)
    {g : JFrame} (hg : g.method = m) (hsize : g.locals.size = c.maxLocals) (hmr : g.monitorRoom = 0) {argsL rest : List Value} (has : (Value.ref b :: argsL).toArray = as') (hlen : ∀ sig, parseMethodDescriptor y.desc = some sig → argsL.length = sig.parameters.length) (hstack : g.stack = argsL.reverse ++ .ref b :: rest) (hd : decode c.code g.pc = .ok (.invokevirtual index, 3))
    (hf : rm.frames + 1 ≤ R.frames) (hl : (rest.map fun v => v.category).sum + (maxL + 11) + rm.locals ≤ R.locals) (hc : cells + rm.cells ≤ R.cells) (hs : slots + rm.slots ≤ R.slots) :
    ∃ v T' L, Q v T'.heap L ∧ Stand p l e R s m args below meth c T' (locs ++ L) (cells + rm.cells) (slots + rm.slots) ∧ ∀ target, Steps p.tables e below (T'.setTop { g with pc := g.pc + 3, stack := v.toList ++ rest }) target → Steps p.tables e below (T.setTop g) target := by
  obtain ⟨cq, kq, q1, q2, q3⟩ := isOf hZ eT E
  obtain ⟨v, _, ⟨T1, L1, k1, n1⟩, -, X1, ⟨Lc, hQ, l1, y1, z1⟩, st⟩ := X.virtualBack hx (y := y) (z := z) hown (mvT hZ w1) (mvT hZ w2) hnf (mvT hZ w3) (mvT hZ w4) hy (backOf (W := (rest.map fun v => v.category).sum) hM hZ wc wz hf hl) q1 q3 hg hsize (Steps.refl _) (argsL := argsL) (rest := rest) hlen hstack (by rw [hmr]; omega) hd (fun _ _ => ⟨has, eT, hc, hs⟩)
  dsimp only [Pt.U, Pt.locs, Pt.cells, Pt.slots] at X1 l1 y1 z1 st hQ
  subst l1 y1 z1
  exact ⟨v, T1, Lc, hQ, X1, fun _ k => st.trans k⟩
theorem own_callV (X : Stand p l e R s m args below meth c T locs cells slots) (hx : p.tables.exec = Jvm.exec) (hZ : Z.Warmed39 s.vm) (eT : T.heap = h) {own K : String} {index : Nat} {y : MethodName} (hown : s.vm.findClass own = some m.cls) (w1 : (Cond.methodLink own index y).before a0 Z = true) (w2 : (Cond.declares y).before a0 Z = true) (w3 : (Cond.selects K y y).before a0 Z = true) (w4 : (Cond.instanceMethod y).before a0 Z = true)
    (hy : y.cls ≠ "java/lang/invoke/MethodHandle" ∧ y.cls ≠ "java/lang/invoke/VarHandle") {b : Addr} (E : Exa Z h b K) {bytes : ByteArray} {maxL : Nat} {ret : Option FieldType} {rm : Room} {as' : Array Value} (wc : (Cond.code y bytes maxL ret).before a0 Z = true) (wz : (Cond.initialized y.cls).before a0 Z = true) (hM : own_C l y bytes maxL ret rm Z h as' Q)
    {g : JFrame} (hg : g.method = m) (hsize : g.locals.size = c.maxLocals) (hmr : g.monitorRoom = 0) {argsL rest : List Value} (has : (Value.ref b :: argsL).toArray = as') (hlen : ∀ sig, parseMethodDescriptor y.desc = some sig → argsL.length = sig.parameters.length) (hstack : g.stack = argsL.reverse ++ .ref b :: rest) (hd : decode c.code g.pc = .ok (.invokevirtual index, 3))
    (hf : rm.frames + 1 ≤ R.frames) (hl : (rest.map fun v => v.category).sum + (maxL + 11) + rm.locals ≤ R.locals) (hc : cells + rm.cells ≤ R.cells) (hs : slots + rm.slots ≤ R.slots) :
    ∃ v T' L, Q v T'.heap L ∧ Stand p l e R s m args below meth c T' (locs ++ L) (cells + rm.cells) (slots + rm.slots) ∧ ∀ target, Steps p.tables e below (T'.setTop { g with pc := g.pc + 3, stack := v.toList ++ rest }) target → Steps p.tables e below (T.setTop g) target :=
  own_callV' X hx hZ eT hown w1 w2 (notFace_of_selects (args := #[]) (mvT hZ w3)) w3 w4 hy E wc wz hM hg hsize hmr has hlen hstack hd hf hl hc hs
theorem own_callU (X : Stand p l e R s m args below meth c T locs cells slots) (hx : p.tables.exec = Jvm.exec) (hZ : Z.Warmed39 s.vm) (eT : T.heap = h) {own K owner : String} {index : Nat} {y z : MethodName} (hown : s.vm.findClass own = some m.cls) (w1 : (Cond.methodLink own index y).before a0 Z = true) (w0 : (Cond.sameMethod y.cls owner y.name y.desc).before a0 Z = true) (w2 : (Cond.declares ⟨owner, y.name, y.desc⟩).before a0 Z = true) (w3 : (Cond.selects K y z).before a0 Z = true) (w4 : (Cond.instanceMethod z).before a0 Z = true)
    (hy : owner ≠ "java/lang/invoke/MethodHandle" ∧ owner ≠ "java/lang/invoke/VarHandle") {b : Addr} (E : Exa Z h b K) {bytes : ByteArray} {maxL : Nat} {ret : Option FieldType} {rm : Room} {as' : Array Value} (wc : (Cond.code z bytes maxL ret).before a0 Z = true) (wz : (Cond.initialized z.cls).before a0 Z = true) (hM : own_C l z bytes maxL ret rm Z h as' Q)
    {g : JFrame} (hg : g.method = m) (hsize : g.locals.size = c.maxLocals) (hmr : g.monitorRoom = 0) {argsL rest : List Value} (has : (Value.ref b :: argsL).toArray = as') (hlen : ∀ sig, parseMethodDescriptor y.desc = some sig → argsL.length = sig.parameters.length) (hstack : g.stack = argsL.reverse ++ .ref b :: rest) (hd : decode c.code g.pc = .ok (.invokevirtual index, 3))
    (hf : rm.frames + 1 ≤ R.frames) (hl : (rest.map fun v => v.category).sum + (maxL + 11) + rm.locals ≤ R.locals) (hc : cells + rm.cells ≤ R.cells) (hs : slots + rm.slots ≤ R.slots) :
    ∃ v T' L, Q v T'.heap L ∧ Stand p l e R s m args below meth c T' (locs ++ L) (cells + rm.cells) (slots + rm.slots) ∧ ∀ target, Steps p.tables e below (T'.setTop { g with pc := g.pc + 3, stack := v.toList ++ rest }) target → Steps p.tables e below (T.setTop g) target := by
  obtain ⟨cq, kq, q1, q2, q3⟩ := isOf hZ eT E
  obtain ⟨v, _, ⟨T1, L1, k1, n1⟩, -, X1, ⟨Lc, hQ, l1, y1, z1⟩, st⟩ := X.virtualBackUp hx (x := y) (y := z) (owner := owner) hown (mvT hZ w1) (mvT hZ w0) (mvT hZ w2) hy (mvT hZ w3) (mvT hZ w4) (backOf (W := (rest.map fun v => v.category).sum) hM hZ wc wz hf hl) q1 q3 hg hsize (Steps.refl _) (argsL := argsL) (rest := rest) hlen hstack (by rw [hmr]; omega) hd (fun _ _ => ⟨has, eT, hc, hs⟩)
  dsimp only [Pt.U, Pt.locs, Pt.cells, Pt.slots] at X1 l1 y1 z1 st hQ
  subst l1 y1 z1
  exact ⟨v, T1, Lc, hQ, X1, fun _ k => st.trans k⟩
theorem own_selP {y : MethodName} {n : Nat} (wi : (Cond.instantiable y.cls n).before a0 Z = true) (w2 : (Cond.instanceMethod y).before a0 Z = true) (w3 : (Cond.privateMethod y).before a0 Z = true) (hy : y.cls ≠ "java/lang/invoke/MethodHandle" ∧ y.cls ≠ "java/lang/invoke/VarHandle") : (Cond.selects y.cls y y).before a0 Z = true := by
  obtain ⟨c, k, h1, h2, -, h4, -⟩ := Cond.instantiable_spec wi
  exact selects_self_of_private h1 h2 (by cases hq : k.isInterface <;> simp_all) (Cond.privateMethod_at w3) w2 hy
theorem own_callP (X : Stand p l e R s m args below meth c T locs cells slots) (hx : p.tables.exec = Jvm.exec) (hZ : Z.Warmed39 s.vm) (eT : T.heap = h) {own K : String} {index n : Nat} {y : MethodName} (hown : s.vm.findClass own = some m.cls) (w1 : (Cond.methodLink own index y).before a0 Z = true) (w2 : (Cond.instanceMethod y).before a0 Z = true) (wi : (Cond.instantiable y.cls n).before a0 Z = true) (w3 : (Cond.privateMethod y).before a0 Z = true)
    (hy : y.cls ≠ "java/lang/invoke/MethodHandle" ∧ y.cls ≠ "java/lang/invoke/VarHandle") {a : Addr} (E : Exa Z h a K) {bytes : ByteArray} {maxL : Nat} {ret : Option FieldType} {rm : Room} {as' : Array Value} (wc : (Cond.code y bytes maxL ret).before a0 Z = true) (wz : (Cond.initialized y.cls).before a0 Z = true) (hM : own_C l y bytes maxL ret rm Z h as' Q)
    {g : JFrame} (hg : g.method = m) (hsize : g.locals.size = c.maxLocals) (hmr : g.monitorRoom = 0) {argsL rest : List Value} (has : (Value.ref a :: argsL).toArray = as') (hlen : ∀ sig, parseMethodDescriptor y.desc = some sig → argsL.length = sig.parameters.length) (hstack : g.stack = argsL.reverse ++ .ref a :: rest) (hd : decode c.code g.pc = .ok (.invokevirtual index, 3))
    (hf : rm.frames + 1 ≤ R.frames) (hl : (rest.map fun v => v.category).sum + (maxL + 11) + rm.locals ≤ R.locals) (hc : cells + rm.cells ≤ R.cells) (hs : slots + rm.slots ≤ R.slots) :
    ∃ v T' L, Q v T'.heap L ∧ Stand p l e R s m args below meth c T' (locs ++ L) (cells + rm.cells) (slots + rm.slots) ∧ ∀ target, Steps p.tables e below (T'.setTop { g with pc := g.pc + 3, stack := v.toList ++ rest }) target → Steps p.tables e below (T.setTop g) target := by
  obtain ⟨cq, q1, q2⟩ := E.cell
  have ws := own_selP wi w2 w3 hy
  obtain ⟨v, _, ⟨T1, L1, k1, n1⟩, -, X1, ⟨Lc, hQ, l1, y1, z1⟩, st⟩ := X.privateBack hx (y := y) hown (mvT hZ w1) (mvT hZ w2) (mvT hZ ws) (Cond.privateMethod_at (mvP hZ w3 (args := #[]))) (mvT hZ wc) hy (backOf (W := (rest.map fun v => v.category).sum) hM hZ wc wz hf hl) hg hsize (Steps.refl _) (a := a) (by rw [eT]; exact q1) q2 (argsL := argsL) (rest := rest) hlen hstack (by rw [hmr]; omega) hd (fun _ _ => ⟨has, eT, hc, hs⟩)
  dsimp only [Pt.U, Pt.locs, Pt.cells, Pt.slots] at X1 l1 y1 z1 st hQ
  subst l1 y1 z1
  exact ⟨v, T1, Lc, hQ, X1, fun _ k => st.trans k⟩
theorem own_backF {y : MethodName} {bytes : ByteArray} {maxL : Nat} {ret : Option FieldType} {rm : Room} {W : Nat} {as' : Array Value} (hM : own_C l y bytes maxL ret rm Z h as' Q) (hZ : Z.Warmed39 s.vm) (wc : (Cond.code y bytes maxL ret).before a0 Z = true) (wz : (Cond.initialized y.cls).before a0 Z = true) (hf : rm.frames + 1 ≤ R.frames) (hl : W + (maxL + 11) + rm.locals ≤ R.locals) :
    Back l R p e below s args y 5 W (fun A a => a = as' ∧ A.U.heap = h ∧ A.cells + rm.cells ≤ R.cells ∧ A.slots + rm.slots ≤ R.slots) (fun A _ v B => ∃ L, Q v B.U.heap L ∧ B.locs = A.locs ++ L ∧ B.cells = A.cells + rm.cells ∧ B.slots = A.slots + rm.slots) := backOf (W := W) hM hZ wc wz hf hl
theorem own_callF (X : Stand p l e R s m args below meth c T locs cells slots) (hx : p.tables.exec = Jvm.exec) (hZ : Z.Warmed39 s.vm) (eT : T.heap = h) {own K : String} {index count : Nat} {xi y : MethodName} (hown : s.vm.findClass own = some m.cls) (w1 : (Cond.methodLink own index xi).before a0 Z = true) (w2 : (Cond.declares xi).before a0 Z = true) (w3 : (Cond.interfaceMethod xi.cls xi.cls xi.name xi.desc).before a0 Z = true) (w4 : (Cond.selects K xi y).before a0 Z = true) (w5 : (Cond.instanceMethod y).before a0 Z = true) (w6 : (Cond.publicMethod y).before a0 Z = true) (w7 : (Cond.unhidden K xi.name xi.desc).before a0 Z = true) (w8 : (Cond.castable K xi.cls).before a0 Z = true) (hfa : ((Cond.interfaceMethod xi.cls xi.cls xi.name xi.desc).onTables && (Cond.interfaceMethod xi.cls xi.cls xi.name xi.desc).keepsFace) = true)
    (hy : xi.cls ≠ "java/lang/invoke/MethodHandle" ∧ xi.cls ≠ "java/lang/invoke/VarHandle") {b : Addr} (E : Exa Z h b K) {bytes : ByteArray} {maxL : Nat} {ret : Option FieldType} {rm : Room} {as' : Array Value} (wc : (Cond.code y bytes maxL ret).before a0 Z = true) (wz : (Cond.initialized y.cls).before a0 Z = true) (hM : own_C l y bytes maxL ret rm Z h as' Q)
    {g : JFrame} (hg : g.method = m) (hsize : g.locals.size = c.maxLocals) (hmr : g.monitorRoom = 0) {argsL rest : List Value} (has : (Value.ref b :: argsL).toArray = as') (hlen : ∀ sig, parseMethodDescriptor xi.desc = some sig → argsL.length = sig.parameters.length) (hstack : g.stack = argsL.reverse ++ .ref b :: rest) (hd : decode c.code g.pc = .ok (.invokeinterface index count, 5))
    (hf : rm.frames + 1 ≤ R.frames) (hl : (rest.map fun v => v.category).sum + (maxL + 11) + rm.locals ≤ R.locals) (hc : cells + rm.cells ≤ R.cells) (hs : slots + rm.slots ≤ R.slots) :
    ∃ v T' L, Q v T'.heap L ∧ Stand p l e R s m args below meth c T' (locs ++ L) (cells + rm.cells) (slots + rm.slots) ∧ ∀ target, Steps p.tables e below (T'.setTop { g with pc := g.pc + 5, stack := v.toList ++ rest }) target → Steps p.tables e below (T.setTop g) target := by
  obtain ⟨cq, kq, q1, q2, q3⟩ := isOf hZ eT E
  obtain ⟨v, _, ⟨T1, L1, k1, n1⟩, -, X1, ⟨Lc, hQ, l1, y1, z1⟩, st⟩ := X.interfaceBack hx (xi := xi) (y := y) hown (mvT hZ w1) (mvT hZ w2) (mvT hZ w3 hfa) (mvT hZ w4) (mvT hZ w5) (mvT hZ w6) (mvT hZ w7) (mvT hZ w8) hy (own_backF (W := (rest.map fun v => v.category).sum) hM hZ wc wz hf hl) q1 q2 q3 hg hsize (Steps.refl _) (argsL := argsL) (rest := rest) hlen hstack (by rw [hmr]; omega) hd (fun _ _ => ⟨has, eT, hc, hs⟩)
  dsimp only [Pt.U, Pt.locs, Pt.cells, Pt.slots] at X1 l1 y1 z1 st hQ
  subst l1 y1 z1
  exact ⟨v, T1, Lc, hQ, X1, fun _ k => st.trans k⟩
/-! from the case's words -/
theorem own_eqR {args : Array Value} {first s : State} {o : Option Outcome} {idx : List Nat} {a b : Term} {x : Addr} (h : (Cond.eq a b).value args first o s idx = some true) (hb : b.eval args first o idx s = some (.ref x)) : a.eval args first o idx s = some (.ref x) := by
  obtain ⟨u, w, h1, h2, h3, h4⟩ := cmp_v (Or.inl h)
  cases hb.symm.trans h2
  rcases ref_cases (show u.isRef = true by cases u <;> simp [Kin, Value.isRef] at h4 ⊢) with rfl | ⟨z, rfl⟩
  · exact absurd (gotT (eq_R h1 h2 rfl rfl) h) nofun
  · rw [h1, gotT (eq_R h1 h2 rfl rfl) h]
theorem own_eqI {args : Array Value} {first s : State} {o : Option Outcome} {idx : List Nat} {a : Term} {n : Int32} (h : (Cond.eq a (.int n)).value args first o s idx = some true) : a.eval args first o idx s = some (.int n) := by
  obtain ⟨u, w, h1, h2, h3, h4⟩ := cmp_v (Or.inl h)
  cases (show some (Value.int n) = some w from h2)
  obtain ⟨z, rfl⟩ : ∃ z, u = .int z := h4
  have q : (Cond.eq a (.int n)).value args first o s idx = some (decide (z = n)) := by simp [Cond.value, h1, Term.eval]
  rw [h1, gotT q h]
theorem own_irr (x : Int32) : ¬ x < x := by rw [Int32.lt_iff_toInt_lt]; omega
theorem own_irrL (x : Int64) : ¬ x < x := by rw [Int64.lt_iff_toInt_lt]; omega
end Own
end Jvm.Pilot.@@N@@
namespace Jvm.Pilot.@@N@@
open Jvm Jvm.ClassFile Sem Op Lib Jvm.Free Jvm.Stand Jvm.LawKit Jvm.RoadKit Bundle Jvm.Pilot.@@N@@.Jvm.D
theorem own_cases17 (i : Int32) (h : 0 ≤ i.toInt ∧ i.toInt < 17) : i = (0 : Int32) ∨ i = (1 : Int32) ∨ i = (2 : Int32) ∨ i = (3 : Int32) ∨ i = (4 : Int32) ∨ i = (5 : Int32) ∨ i = (6 : Int32) ∨ i = (7 : Int32) ∨ i = (8 : Int32) ∨ i = (9 : Int32) ∨ i = (10 : Int32) ∨ i = (11 : Int32) ∨ i = (12 : Int32) ∨ i = (13 : Int32) ∨ i = (14 : Int32) ∨ i = (15 : Int32) ∨ i = (16 : Int32) := by
  rcases (by omega : i.toInt = 0 ∨ i.toInt = 1 ∨ i.toInt = 2 ∨ i.toInt = 3 ∨ i.toInt = 4 ∨ i.toInt = 5 ∨ i.toInt = 6 ∨ i.toInt = 7 ∨ i.toInt = 8 ∨ i.toInt = 9 ∨ i.toInt = 10 ∨ i.toInt = 11 ∨ i.toInt = 12 ∨ i.toInt = 13 ∨ i.toInt = 14 ∨ i.toInt = 15 ∨ i.toInt = 16) with h | h | h | h | h | h | h | h | h | h | h | h | h | h | h | h | h
  all_goals (have q := fun (z : Int32) (e : i.toInt = z.toInt) => Int32.toInt_inj.mp e)
  · exact Or.inl (q _ (h.trans (by decide)))
  · exact Or.inr (Or.inl (q _ (h.trans (by decide))))
  · exact Or.inr (Or.inr (Or.inl (q _ (h.trans (by decide)))))
  · exact Or.inr (Or.inr (Or.inr (Or.inl (q _ (h.trans (by decide))))))
  · exact Or.inr (Or.inr (Or.inr (Or.inr (Or.inl (q _ (h.trans (by decide)))))))
  · exact Or.inr (Or.inr (Or.inr (Or.inr (Or.inr (Or.inl (q _ (h.trans (by decide))))))))
  · exact Or.inr (Or.inr (Or.inr (Or.inr (Or.inr (Or.inr (Or.inl (q _ (h.trans (by decide)))))))))
  · exact Or.inr (Or.inr (Or.inr (Or.inr (Or.inr (Or.inr (Or.inr (Or.inl (q _ (h.trans (by decide))))))))))
  · exact Or.inr (Or.inr (Or.inr (Or.inr (Or.inr (Or.inr (Or.inr (Or.inr (Or.inl (q _ (h.trans (by decide)))))))))))
  · exact Or.inr (Or.inr (Or.inr (Or.inr (Or.inr (Or.inr (Or.inr (Or.inr (Or.inr (Or.inl (q _ (h.trans (by decide))))))))))))
  · exact Or.inr (Or.inr (Or.inr (Or.inr (Or.inr (Or.inr (Or.inr (Or.inr (Or.inr (Or.inr (Or.inl (q _ (h.trans (by decide)))))))))))))
  · exact Or.inr (Or.inr (Or.inr (Or.inr (Or.inr (Or.inr (Or.inr (Or.inr (Or.inr (Or.inr (Or.inr (Or.inl (q _ (h.trans (by decide))))))))))))))
  · exact Or.inr (Or.inr (Or.inr (Or.inr (Or.inr (Or.inr (Or.inr (Or.inr (Or.inr (Or.inr (Or.inr (Or.inr (Or.inl (q _ (h.trans (by decide)))))))))))))))
  · exact Or.inr (Or.inr (Or.inr (Or.inr (Or.inr (Or.inr (Or.inr (Or.inr (Or.inr (Or.inr (Or.inr (Or.inr (Or.inr (Or.inl (q _ (h.trans (by decide))))))))))))))))
  · exact Or.inr (Or.inr (Or.inr (Or.inr (Or.inr (Or.inr (Or.inr (Or.inr (Or.inr (Or.inr (Or.inr (Or.inr (Or.inr (Or.inr (Or.inl (q _ (h.trans (by decide)))))))))))))))))
  · exact Or.inr (Or.inr (Or.inr (Or.inr (Or.inr (Or.inr (Or.inr (Or.inr (Or.inr (Or.inr (Or.inr (Or.inr (Or.inr (Or.inr (Or.inr (Or.inl (q _ (h.trans (by decide))))))))))))))))))
  · exact Or.inr (Or.inr (Or.inr (Or.inr (Or.inr (Or.inr (Or.inr (Or.inr (Or.inr (Or.inr (Or.inr (Or.inr (Or.inr (Or.inr (Or.inr (Or.inr ((q _ (h.trans (by decide)))))))))))))))))))
theorem own_mod17 (x : Int32) : 0 ≤ ((x &&& (2147483647 : Int32)) % (17 : Int32)).toInt ∧ ((x &&& (2147483647 : Int32)) % (17 : Int32)).toInt < 17 := by
  have e1 := c_mask x (2147483647 : Int32) 31 (by decide) (by decide)
  have e2 := (c_irem (x &&& (2147483647 : Int32)) (17 : Int32) 17 (by decide)).1 (by omega)
  omega
theorem own_extE {h0 h h' : Heap} (E : Ext h0 h) (E' : Ext h h') : Ext h0 h' := ⟨Nat.le_trans E.1 E'.1, fun a c q => E'.2 a c (E.2 a c q)⟩
theorem own_extW {h0 h h' : Heap} {a : Addr} {sl : Nat} {v : Value} (E : Ext h0 h) (W : Wr h h' a sl v) (q : h0.size ≤ a) : Ext h0 h' := by
  refine ⟨Nat.le_trans E.1 (Keep.of_wr W).1, fun b c hb => ?_⟩
  obtain ⟨c', h1, -, -, -, h5, -, -⟩ := wr_at W (E.2 b c hb)
  have ne : b ≠ a := fun e => absurd (Array.getElem?_eq_some_iff.mp hb).1 (Nat.not_lt.mpr (e ▸ q))
  rw [← h5 ne]; exact h1
theorem own_pn0 : plainFor (⟨"com/example/prior_art_search/priorartsearch/eval/MeasureIsPerTopicPinLaw", "law", "(I)Z"⟩ : MethodName) = true := plainFor_of_name (by first | (simp [plainName, overriddenIn]; done) | decide +kernel)
theorem own_d1_0 : decode prog_10_method_6_code 0 = .ok (.aload_n 0, 1) := by decide +kernel
theorem own_d1_1 : decode prog_10_method_6_code 1 = .ok (.getfield 78, 3) := by decide +kernel
theorem own_d1_4 : decode prog_10_method_6_code 4 = .ok (.getstatic 91, 3) := by decide +kernel
theorem own_d1_7 : decode prog_10_method_6_code 7 = .ok (.if_acmp .eq 7, 3) := by decide +kernel
theorem own_d1_14 : decode prog_10_method_6_code 14 = .ok (.iconst 0, 1) := by decide +kernel
theorem own_d1_15 : decode prog_10_method_6_code 15 = .ok (.ireturn, 1) := by decide +kernel
theorem own_pn1 : plainFor (⟨"com/example/prior_art_search/priorartsearch/eval/Measure", "isPerTopic", "()Z"⟩ : MethodName) = true := plainFor_of_name (by first | (simp [plainName, overriddenIn]; done) | decide +kernel)
set_option maxRecDepth 65536 in
set_option maxHeartbeats 40000000 in
theorem own_k1_1 (l : Launch) (Z : State) (a0 : Array Value) (hw : ∀ d ∈ tables_1, d.before a0 Z = true) (p0 : Addr) (p1 : Addr) (h0 : Heap) (H0 : Fld Z h0 p0 "com/example/prior_art_search/priorartsearch/eval/Measure" "kind" "Lcom/example/prior_art_search/priorartsearch/eval/Measure$Kind;" (.ref p1)) (H1 : Sta Z h0 "com/example/prior_art_search/priorartsearch/eval/Measure$Kind" "TOPICS" "Lcom/example/prior_art_search/priorartsearch/eval/Measure$Kind;" (.ref p1)) :
    own_C l (⟨"com/example/prior_art_search/priorartsearch/eval/Measure", "isPerTopic", "()Z"⟩ : MethodName) prog_10_method_6_code 1 (some .boolean) (own_R 0 0 0 0) Z h0 #[(.ref p0)] (own_P (some (.int (0 : Int32))) h0) := by
  refine own_body own_pn1 ?_
  intro p e s m below meth c s₁ hx hby hml hZ hown hnm hret hlk X0 e0
  refine own_cast (f' := (mkF m 0 #[(.val (.ref p0))] [])) (by first | (simp [entryFrame, mkF, argsToLocals, Value.category, maxLocals]; done) | rfl) ?_
  refine own_st (T' := s₁) (f' := (mkF m 1 #[(.val (.ref p0))] [(.ref p0)])) (fun _ kont => XS.aloadN X0.here hx rfl (hb hby own_d1_0) rfl rfl kont) ?_
  obtain ⟨T1, X1, e1, st1⟩ := getF X0 hx hZ hown (host := "") (Or.inl (hw _ (List.mem_of_getElem? (i := 44) rfl))) Via.refl e0 H0 (g := (mkF m 1 #[(.val (.ref p0))] [(.ref p0)])) rfl rfl (hb hby own_d1_1)
  refine own_st (T' := T1) (f' := (mkF m 4 #[(.val (.ref p0))] [(.ref p1)])) st1 ?_
  obtain ⟨T2, X2, e2, st2⟩ := getS2 X1 hx hZ hown (host := "") (Or.inl (hw _ (List.mem_of_getElem? (i := 48) rfl))) Via.refl e1 H1 (g := (mkF m 4 #[(.val (.ref p0))] [(.ref p1)])) rfl (hb hby own_d1_4)
  refine own_st (T' := T2) (f' := (mkF m 7 #[(.val (.ref p0))] [(.ref p1), (.ref p1)])) st2 ?_
  refine own_st (T' := T2) (f' := (mkF m 14 #[(.val (.ref p0))] [])) (fun _ kont => Jvm.RoadKit.acmp (g := (mkF m 7 #[(.val (.ref p0))] [(.ref p1), (.ref p1)])) X2 hx rfl rfl rfl (pc0 := 7) (pc' := 14) (same := true) rfl (hb hby own_d1_7) rfl (decide_eq_true (congrArg Value.ref (rfl : p1 = p1))) (by decide) (by decide) kont) ?_
  refine own_st (T' := T2) (f' := (mkF m 15 #[(.val (.ref p0))] [(.int (0 : Int32))])) (fun _ kont => XS.iconst X2.here hx rfl (hb hby own_d1_14) kont) ?_
  exact own_retN X2 hx hlk (t := .boolean) hret (by simp) (hb hby own_d1_15) ⟨rfl, rfl, e2⟩ (by decide) (by decide)
theorem own_pd0 : parseMethodDescriptor "()Z" = some ⟨[], some .boolean⟩ := by decide +kernel
theorem own_d1_10 : decode prog_10_method_6_code 10 = .ok (.iconst 1, 1) := by decide +kernel
theorem own_d1_11 : decode prog_10_method_6_code 11 = .ok (.goto 4, 3) := by decide +kernel
set_option maxRecDepth 65536 in
set_option maxHeartbeats 40000000 in
theorem own_k1_2 (l : Launch) (Z : State) (a0 : Array Value) (hw : ∀ d ∈ tables_1, d.before a0 Z = true) (p0 : Addr) (p1 : Addr) (p2 : Addr) (h0 : Heap) (H0 : Fld Z h0 p0 "com/example/prior_art_search/priorartsearch/eval/Measure" "kind" "Lcom/example/prior_art_search/priorartsearch/eval/Measure$Kind;" (.ref p1)) (H1 : Sta Z h0 "com/example/prior_art_search/priorartsearch/eval/Measure$Kind" "TOPICS" "Lcom/example/prior_art_search/priorartsearch/eval/Measure$Kind;" (.ref p2)) :
    own_C l (⟨"com/example/prior_art_search/priorartsearch/eval/Measure", "isPerTopic", "()Z"⟩ : MethodName) prog_10_method_6_code 1 (some .boolean) (own_R 0 0 0 0) Z h0 #[(.ref p0)] (own_P (some (if p1 = p2 then (.int (0 : Int32)) else (.int (1 : Int32)))) h0) := by
  refine own_body own_pn1 ?_
  intro p e s m below meth c s₁ hx hby hml hZ hown hnm hret hlk X0 e0
  refine own_cast (f' := (mkF m 0 #[(.val (.ref p0))] [])) (by first | (simp [entryFrame, mkF, argsToLocals, Value.category, maxLocals]; done) | rfl) ?_
  refine own_st (T' := s₁) (f' := (mkF m 1 #[(.val (.ref p0))] [(.ref p0)])) (fun _ kont => XS.aloadN X0.here hx rfl (hb hby own_d1_0) rfl rfl kont) ?_
  obtain ⟨T1, X1, e1, st1⟩ := getF X0 hx hZ hown (host := "") (Or.inl (hw _ (List.mem_of_getElem? (i := 44) rfl))) Via.refl e0 H0 (g := (mkF m 1 #[(.val (.ref p0))] [(.ref p0)])) rfl rfl (hb hby own_d1_1)
  refine own_st (T' := T1) (f' := (mkF m 4 #[(.val (.ref p0))] [(.ref p1)])) st1 ?_
  obtain ⟨T2, X2, e2, st2⟩ := getS2 X1 hx hZ hown (host := "") (Or.inl (hw _ (List.mem_of_getElem? (i := 48) rfl))) Via.refl e1 H1 (g := (mkF m 4 #[(.val (.ref p0))] [(.ref p1)])) rfl (hb hby own_d1_4)
  refine own_st (T' := T2) (f' := (mkF m 7 #[(.val (.ref p0))] [(.ref p2), (.ref p1)])) st2 ?_
  by_cases c0 : p1 = p2
  · refine own_st (T' := T2) (f' := (mkF m 14 #[(.val (.ref p0))] [])) (fun _ kont => Jvm.RoadKit.acmp (g := (mkF m 7 #[(.val (.ref p0))] [(.ref p2), (.ref p1)])) X2 hx rfl rfl rfl (pc0 := 7) (pc' := 14) (same := true) rfl (hb hby own_d1_7) rfl (decide_eq_true (congrArg Value.ref c0)) (by decide) (by decide) kont) ?_
    refine own_st (T' := T2) (f' := (mkF m 15 #[(.val (.ref p0))] [(.int (0 : Int32))])) (fun _ kont => XS.iconst X2.here hx rfl (hb hby own_d1_14) kont) ?_
    exact own_retN X2 hx hlk (t := .boolean) hret (by simp) (hb hby own_d1_15) ⟨by simp only [if_pos c0]; rfl, rfl, e2⟩ (by decide) (by decide)
  · refine own_st (T' := T2) (f' := (mkF m 10 #[(.val (.ref p0))] [])) (fun _ kont => Jvm.RoadKit.acmp (g := (mkF m 7 #[(.val (.ref p0))] [(.ref p2), (.ref p1)])) X2 hx rfl rfl rfl (pc0 := 7) (pc' := 10) (same := false) rfl (hb hby own_d1_7) rfl (decide_eq_false fun q => c0 (Value.ref.inj q)) (by decide) (by decide) kont) ?_
    refine own_st (T' := T2) (f' := (mkF m 11 #[(.val (.ref p0))] [(.int (1 : Int32))])) (fun _ kont => XS.iconst X2.here hx rfl (hb hby own_d1_10) kont) ?_
    refine own_st (T' := T2) (f' := (mkF m 15 #[(.val (.ref p0))] [(.int (1 : Int32))])) (fun _ kont => XS.goto X2.here hx rfl (pc0 := 11) (pc' := 15) rfl (hb hby own_d1_11) (by decide) (by decide) kont) ?_
    exact own_retN X2 hx hlk (t := .boolean) hret (by simp) (hb hby own_d1_15) ⟨by simp only [if_neg c0]; rfl, rfl, e2⟩ (by decide) (by decide)
set_option maxRecDepth 65536 in
set_option maxHeartbeats 40000000 in
theorem own_rm0 (l : Launch) (Z : State) (a0 : Array Value) (hw : ∀ d ∈ tables_1, d.before a0 Z = true) (ws : List Jvm.Cond) (x0 : Int32) (s_Measure_NUM_Q s_Measure_NUM_RET s_Measure_NUM_REL s_Measure_NUM_REL_RET s_Measure_MAP s_Measure_RECIP_RANK s_Measure_BPREF s_Measure_P_5 s_Measure_P_10 s_Measure_P_100 s_Measure_RECALL_5 s_Measure_RECALL_10 s_Measure_RECALL_100 s_Measure_RECALL_1000 s_Measure_NDCG s_Measure_PRES_100 s_Measure_PRES_1000 s_Kind_TOPICS s_Kind_COUNT s_Kind_MEAN : Addr) (h0 : Heap) (S_Measure_NUM_Q : Sta Z h0 "com/example/prior_art_search/priorartsearch/eval/Measure" "NUM_Q" "Lcom/example/prior_art_search/priorartsearch/eval/Measure;" (.ref s_Measure_NUM_Q)) (E_Measure_NUM_Q : Exa Z h0 s_Measure_NUM_Q "com/example/prior_art_search/priorartsearch/eval/Measure") (S_Measure_NUM_RET : Sta Z h0 "com/example/prior_art_search/priorartsearch/eval/Measure" "NUM_RET" "Lcom/example/prior_art_search/priorartsearch/eval/Measure;" (.ref s_Measure_NUM_RET)) (E_Measure_NUM_RET : Exa Z h0 s_Measure_NUM_RET "com/example/prior_art_search/priorartsearch/eval/Measure") (S_Measure_NUM_REL : Sta Z h0 "com/example/prior_art_search/priorartsearch/eval/Measure" "NUM_REL" "Lcom/example/prior_art_search/priorartsearch/eval/Measure;" (.ref s_Measure_NUM_REL)) (E_Measure_NUM_REL : Exa Z h0 s_Measure_NUM_REL "com/example/prior_art_search/priorartsearch/eval/Measure") (S_Measure_NUM_REL_RET : Sta Z h0 "com/example/prior_art_search/priorartsearch/eval/Measure" "NUM_REL_RET" "Lcom/example/prior_art_search/priorartsearch/eval/Measure;" (.ref s_Measure_NUM_REL_RET)) (E_Measure_NUM_REL_RET : Exa Z h0 s_Measure_NUM_REL_RET "com/example/prior_art_search/priorartsearch/eval/Measure") (S_Measure_MAP : Sta Z h0 "com/example/prior_art_search/priorartsearch/eval/Measure" "MAP" "Lcom/example/prior_art_search/priorartsearch/eval/Measure;" (.ref s_Measure_MAP)) (E_Measure_MAP : Exa Z h0 s_Measure_MAP "com/example/prior_art_search/priorartsearch/eval/Measure") (S_Measure_RECIP_RANK : Sta Z h0 "com/example/prior_art_search/priorartsearch/eval/Measure" "RECIP_RANK" "Lcom/example/prior_art_search/priorartsearch/eval/Measure;" (.ref s_Measure_RECIP_RANK)) (E_Measure_RECIP_RANK : Exa Z h0 s_Measure_RECIP_RANK "com/example/prior_art_search/priorartsearch/eval/Measure") (S_Measure_BPREF : Sta Z h0 "com/example/prior_art_search/priorartsearch/eval/Measure" "BPREF" "Lcom/example/prior_art_search/priorartsearch/eval/Measure;" (.ref s_Measure_BPREF)) (E_Measure_BPREF : Exa Z h0 s_Measure_BPREF "com/example/prior_art_search/priorartsearch/eval/Measure") (S_Measure_P_5 : Sta Z h0 "com/example/prior_art_search/priorartsearch/eval/Measure" "P_5" "Lcom/example/prior_art_search/priorartsearch/eval/Measure;" (.ref s_Measure_P_5)) (E_Measure_P_5 : Exa Z h0 s_Measure_P_5 "com/example/prior_art_search/priorartsearch/eval/Measure") (S_Measure_P_10 : Sta Z h0 "com/example/prior_art_search/priorartsearch/eval/Measure" "P_10" "Lcom/example/prior_art_search/priorartsearch/eval/Measure;" (.ref s_Measure_P_10)) (E_Measure_P_10 : Exa Z h0 s_Measure_P_10 "com/example/prior_art_search/priorartsearch/eval/Measure") (S_Measure_P_100 : Sta Z h0 "com/example/prior_art_search/priorartsearch/eval/Measure" "P_100" "Lcom/example/prior_art_search/priorartsearch/eval/Measure;" (.ref s_Measure_P_100)) (E_Measure_P_100 : Exa Z h0 s_Measure_P_100 "com/example/prior_art_search/priorartsearch/eval/Measure") (S_Measure_RECALL_5 : Sta Z h0 "com/example/prior_art_search/priorartsearch/eval/Measure" "RECALL_5" "Lcom/example/prior_art_search/priorartsearch/eval/Measure;" (.ref s_Measure_RECALL_5)) (E_Measure_RECALL_5 : Exa Z h0 s_Measure_RECALL_5 "com/example/prior_art_search/priorartsearch/eval/Measure") (S_Measure_RECALL_10 : Sta Z h0 "com/example/prior_art_search/priorartsearch/eval/Measure" "RECALL_10" "Lcom/example/prior_art_search/priorartsearch/eval/Measure;" (.ref s_Measure_RECALL_10)) (E_Measure_RECALL_10 : Exa Z h0 s_Measure_RECALL_10 "com/example/prior_art_search/priorartsearch/eval/Measure") (S_Measure_RECALL_100 : Sta Z h0 "com/example/prior_art_search/priorartsearch/eval/Measure" "RECALL_100" "Lcom/example/prior_art_search/priorartsearch/eval/Measure;" (.ref s_Measure_RECALL_100)) (E_Measure_RECALL_100 : Exa Z h0 s_Measure_RECALL_100 "com/example/prior_art_search/priorartsearch/eval/Measure") (S_Measure_RECALL_1000 : Sta Z h0 "com/example/prior_art_search/priorartsearch/eval/Measure" "RECALL_1000" "Lcom/example/prior_art_search/priorartsearch/eval/Measure;" (.ref s_Measure_RECALL_1000)) (E_Measure_RECALL_1000 : Exa Z h0 s_Measure_RECALL_1000 "com/example/prior_art_search/priorartsearch/eval/Measure") (S_Measure_NDCG : Sta Z h0 "com/example/prior_art_search/priorartsearch/eval/Measure" "NDCG" "Lcom/example/prior_art_search/priorartsearch/eval/Measure;" (.ref s_Measure_NDCG)) (E_Measure_NDCG : Exa Z h0 s_Measure_NDCG "com/example/prior_art_search/priorartsearch/eval/Measure") (S_Measure_PRES_100 : Sta Z h0 "com/example/prior_art_search/priorartsearch/eval/Measure" "PRES_100" "Lcom/example/prior_art_search/priorartsearch/eval/Measure;" (.ref s_Measure_PRES_100)) (E_Measure_PRES_100 : Exa Z h0 s_Measure_PRES_100 "com/example/prior_art_search/priorartsearch/eval/Measure") (S_Measure_PRES_1000 : Sta Z h0 "com/example/prior_art_search/priorartsearch/eval/Measure" "PRES_1000" "Lcom/example/prior_art_search/priorartsearch/eval/Measure;" (.ref s_Measure_PRES_1000)) (E_Measure_PRES_1000 : Exa Z h0 s_Measure_PRES_1000 "com/example/prior_art_search/priorartsearch/eval/Measure") (S_Kind_TOPICS : Sta Z h0 "com/example/prior_art_search/priorartsearch/eval/Measure$Kind" "TOPICS" "Lcom/example/prior_art_search/priorartsearch/eval/Measure$Kind;" (.ref s_Kind_TOPICS)) (E_Kind_TOPICS : Exa Z h0 s_Kind_TOPICS "com/example/prior_art_search/priorartsearch/eval/Measure$Kind") (F_Measure_NUM_Q_kind : Fld Z h0 s_Measure_NUM_Q "com/example/prior_art_search/priorartsearch/eval/Measure" "kind" "Lcom/example/prior_art_search/priorartsearch/eval/Measure$Kind;" (.ref s_Kind_TOPICS)) (S_Kind_COUNT : Sta Z h0 "com/example/prior_art_search/priorartsearch/eval/Measure$Kind" "COUNT" "Lcom/example/prior_art_search/priorartsearch/eval/Measure$Kind;" (.ref s_Kind_COUNT)) (E_Kind_COUNT : Exa Z h0 s_Kind_COUNT "com/example/prior_art_search/priorartsearch/eval/Measure$Kind") (F_Measure_NUM_REL_RET_kind : Fld Z h0 s_Measure_NUM_REL_RET "com/example/prior_art_search/priorartsearch/eval/Measure" "kind" "Lcom/example/prior_art_search/priorartsearch/eval/Measure$Kind;" (.ref s_Kind_COUNT)) (F_Kind_COUNT_ordinal : Fld Z h0 s_Kind_COUNT "java/lang/Enum" "ordinal" "I" (.int (1 : Int32))) (F_Kind_TOPICS_ordinal : Fld Z h0 s_Kind_TOPICS "java/lang/Enum" "ordinal" "I" (.int (0 : Int32))) (S_Kind_MEAN : Sta Z h0 "com/example/prior_art_search/priorartsearch/eval/Measure$Kind" "MEAN" "Lcom/example/prior_art_search/priorartsearch/eval/Measure$Kind;" (.ref s_Kind_MEAN)) (E_Kind_MEAN : Exa Z h0 s_Kind_MEAN "com/example/prior_art_search/priorartsearch/eval/Measure$Kind") (F_Measure_P_10_kind : Fld Z h0 s_Measure_P_10 "com/example/prior_art_search/priorartsearch/eval/Measure" "kind" "Lcom/example/prior_art_search/priorartsearch/eval/Measure$Kind;" (.ref s_Kind_MEAN)) (F_Kind_MEAN_ordinal : Fld Z h0 s_Kind_MEAN "java/lang/Enum" "ordinal" "I" (.int (2 : Int32))) (F_Measure_P_100_kind : Fld Z h0 s_Measure_P_100 "com/example/prior_art_search/priorartsearch/eval/Measure" "kind" "Lcom/example/prior_art_search/priorartsearch/eval/Measure$Kind;" (.ref s_Kind_MEAN)) (F_Measure_BPREF_kind : Fld Z h0 s_Measure_BPREF "com/example/prior_art_search/priorartsearch/eval/Measure" "kind" "Lcom/example/prior_art_search/priorartsearch/eval/Measure$Kind;" (.ref s_Kind_MEAN)) (F_Measure_P_5_kind : Fld Z h0 s_Measure_P_5 "com/example/prior_art_search/priorartsearch/eval/Measure" "kind" "Lcom/example/prior_art_search/priorartsearch/eval/Measure$Kind;" (.ref s_Kind_MEAN)) (F_Measure_NUM_REL_kind : Fld Z h0 s_Measure_NUM_REL "com/example/prior_art_search/priorartsearch/eval/Measure" "kind" "Lcom/example/prior_art_search/priorartsearch/eval/Measure$Kind;" (.ref s_Kind_COUNT)) (F_Measure_RECALL_10_kind : Fld Z h0 s_Measure_RECALL_10 "com/example/prior_art_search/priorartsearch/eval/Measure" "kind" "Lcom/example/prior_art_search/priorartsearch/eval/Measure$Kind;" (.ref s_Kind_MEAN)) (F_Measure_NUM_RET_kind : Fld Z h0 s_Measure_NUM_RET "com/example/prior_art_search/priorartsearch/eval/Measure" "kind" "Lcom/example/prior_art_search/priorartsearch/eval/Measure$Kind;" (.ref s_Kind_COUNT)) (F_Measure_RECALL_1000_kind : Fld Z h0 s_Measure_RECALL_1000 "com/example/prior_art_search/priorartsearch/eval/Measure" "kind" "Lcom/example/prior_art_search/priorartsearch/eval/Measure$Kind;" (.ref s_Kind_MEAN)) (F_Measure_MAP_kind : Fld Z h0 s_Measure_MAP "com/example/prior_art_search/priorartsearch/eval/Measure" "kind" "Lcom/example/prior_art_search/priorartsearch/eval/Measure$Kind;" (.ref s_Kind_MEAN)) (F_Measure_RECALL_5_kind : Fld Z h0 s_Measure_RECALL_5 "com/example/prior_art_search/priorartsearch/eval/Measure" "kind" "Lcom/example/prior_art_search/priorartsearch/eval/Measure$Kind;" (.ref s_Kind_MEAN)) (F_Measure_PRES_1000_kind : Fld Z h0 s_Measure_PRES_1000 "com/example/prior_art_search/priorartsearch/eval/Measure" "kind" "Lcom/example/prior_art_search/priorartsearch/eval/Measure$Kind;" (.ref s_Kind_MEAN)) (F_Measure_PRES_100_kind : Fld Z h0 s_Measure_PRES_100 "com/example/prior_art_search/priorartsearch/eval/Measure" "kind" "Lcom/example/prior_art_search/priorartsearch/eval/Measure$Kind;" (.ref s_Kind_MEAN)) (F_Measure_RECIP_RANK_kind : Fld Z h0 s_Measure_RECIP_RANK "com/example/prior_art_search/priorartsearch/eval/Measure" "kind" "Lcom/example/prior_art_search/priorartsearch/eval/Measure$Kind;" (.ref s_Kind_MEAN)) (F_Measure_NDCG_kind : Fld Z h0 s_Measure_NDCG "com/example/prior_art_search/priorartsearch/eval/Measure" "kind" "Lcom/example/prior_art_search/priorartsearch/eval/Measure$Kind;" (.ref s_Kind_MEAN)) (F_Measure_RECALL_100_kind : Fld Z h0 s_Measure_RECALL_100 "com/example/prior_art_search/priorartsearch/eval/Measure" "kind" "Lcom/example/prior_art_search/priorartsearch/eval/Measure$Kind;" (.ref s_Kind_MEAN)) (neCT : s_Kind_COUNT ≠ s_Kind_TOPICS) (neMT : s_Kind_MEAN ≠ s_Kind_TOPICS) :
    own_C0 l x code maxLocals ret ws room_1 Z h0 #[(.int x0)] (fun v h L => v = some (.int (1 : Int32)) ∧ Fr h0.size L) 16 128 := by
  refine own_body own_pn0 ?_
  intro p e s m below meth c s₁ hx hby hml hZ hown hnm hret hlk X0 e0
  refine own_cast (f' := (mkF m 0 #[(.val (.int x0)), .unset, .unset, .unset] [])) (by first | (simp [entryFrame, mkF, argsToLocals, Value.category, maxLocals]; done) | rfl) ?_
  refine own_st (T' := s₁) (f' := (mkF m 2 #[(.val (.int x0)), .unset, .unset, .unset] [(.int (17 : Int32))])) (fun _ kont => XS.bipush X0.here hx rfl (hb hby at_0) kont) ?_
  obtain ⟨T1, h1, k1, X1, e1, E1, A1, O1, st1⟩ := newR X0 hx hZ hown (hw _ (List.mem_of_getElem? (i := 0) rfl)) (hw _ (List.mem_of_getElem? (i := 1) rfl)) e0 (g := (mkF m 2 #[(.val (.int x0)), .unset, .unset, .unset] [(.int (17 : Int32))])) rfl (hb hby at_2) rfl (by decide) (cap := 17) (by decide) (by decide) (by decide) (by decide)
  obtain ⟨b1, g1⟩ : ∃ z, z = h0.size := ⟨_, rfl⟩
  rw [← g1] at A1 st1
  have V1 : Arv Z h1 b1 k1 (.object "com/example/prior_art_search/priorartsearch/eval/Measure") (17 : Int32) [.null, .null, .null, .null, .null, .null, .null, .null, .null, .null, .null, .null, .null, .null, .null, .null, .null] .null := (Arv.new A1 (by decide)).pad (pad_rep [] .null 17)
  have EX1 : Ext h0 h1 := E1
  have z_b1 : h0.size ≤ b1 := Nat.le_of_eq g1.symm
  refine own_st (T' := T1) (f' := (mkF m 5 #[(.val (.int x0)), .unset, .unset, .unset] [(.ref b1)])) st1 ?_
  refine own_st (T' := T1) (f' := (mkF m 6 #[(.val (.int x0)), .unset, .unset, .unset] [(.ref b1), (.ref b1)])) (fun _ kont => XS.dup X1.here hx rfl (hb hby at_5) rfl rfl kont) ?_
  refine own_st (T' := T1) (f' := (mkF m 7 #[(.val (.int x0)), .unset, .unset, .unset] [(.int (0 : Int32)), (.ref b1), (.ref b1)])) (fun _ kont => XS.iconst X1.here hx rfl (hb hby at_6) kont) ?_
  obtain ⟨T2, X2, e2, st2⟩ := getS2 X1 hx hZ hown (host := "") (Or.inl (hw _ (List.mem_of_getElem? (i := 2) rfl))) Via.refl e1 (S_Measure_NUM_Q.ext EX1) (g := (mkF m 7 #[(.val (.int x0)), .unset, .unset, .unset] [(.int (0 : Int32)), (.ref b1), (.ref b1)])) rfl (hb hby at_7)
  refine own_st (T' := T2) (f' := (mkF m 10 #[(.val (.int x0)), .unset, .unset, .unset] [(.ref s_Measure_NUM_Q), (.int (0 : Int32)), (.ref b1), (.ref b1)])) st2 ?_
  obtain ⟨cl3, Ar3, q3, S3, N3, H3, G3⟩ := V1
  obtain ⟨T3, h3, X3, e3, W3, st3⟩ := stR X2 hx hZ e2 Ar3 (j := (0 : Int32)) (inb_of S3 ⟨by decide, by decide⟩) rfl (Sto.ofV Ar3 q3 O1 (Ins.self (E_Measure_NUM_Q.ext EX1))) (g := (mkF m 10 #[(.val (.int x0)), .unset, .unset, .unset] [(.ref s_Measure_NUM_Q), (.int (0 : Int32)), (.ref b1), (.ref b1)])) rfl rfl (hb hby at_10)
  have V3 : Arv Z h3 b1 k1 (.object "com/example/prior_art_search/priorartsearch/eval/Measure") (17 : Int32) [(.ref s_Measure_NUM_Q), .null, .null, .null, .null, .null, .null, .null, .null, .null, .null, .null, .null, .null, .null, .null, .null] .null := Arv.set Ar3 q3 S3 N3 H3 G3 rfl W3 0 rfl (Nat.le_of_ble_eq_true rfl)
  have EX3 : Ext h0 h3 := own_extW EX1 W3 z_b1
  have N_3 := Fr.snoc X3 (Fr.nil _) z_b1
  refine own_st (T' := T3) (f' := (mkF m 11 #[(.val (.int x0)), .unset, .unset, .unset] [(.ref b1)])) st3 ?_
  refine own_st (T' := T3) (f' := (mkF m 12 #[(.val (.int x0)), .unset, .unset, .unset] [(.ref b1), (.ref b1)])) (fun _ kont => XS.dup X3.here hx rfl (hb hby at_11) rfl rfl kont) ?_
  refine own_st (T' := T3) (f' := (mkF m 13 #[(.val (.int x0)), .unset, .unset, .unset] [(.int (1 : Int32)), (.ref b1), (.ref b1)])) (fun _ kont => XS.iconst X3.here hx rfl (hb hby at_12) kont) ?_
  obtain ⟨T4, X4, e4, st4⟩ := getS2 X3 hx hZ hown (host := "") (Or.inl (hw _ (List.mem_of_getElem? (i := 6) rfl))) Via.refl e3 (S_Measure_NUM_RET.ext EX3) (g := (mkF m 13 #[(.val (.int x0)), .unset, .unset, .unset] [(.int (1 : Int32)), (.ref b1), (.ref b1)])) rfl (hb hby at_13)
  refine own_st (T' := T4) (f' := (mkF m 16 #[(.val (.int x0)), .unset, .unset, .unset] [(.ref s_Measure_NUM_RET), (.int (1 : Int32)), (.ref b1), (.ref b1)])) st4 ?_
  obtain ⟨cl5, Ar5, q5, S5, N5, H5, G5⟩ := V3
  obtain ⟨T5, h5, X5, e5, W5, st5⟩ := stR X4 hx hZ e4 Ar5 (j := (1 : Int32)) (inb_of S5 ⟨by decide, by decide⟩) rfl (Sto.ofV Ar5 q5 O1 (Ins.self (E_Measure_NUM_RET.ext EX3))) (g := (mkF m 16 #[(.val (.int x0)), .unset, .unset, .unset] [(.ref s_Measure_NUM_RET), (.int (1 : Int32)), (.ref b1), (.ref b1)])) rfl rfl (hb hby at_16)
  have V5 : Arv Z h5 b1 k1 (.object "com/example/prior_art_search/priorartsearch/eval/Measure") (17 : Int32) [(.ref s_Measure_NUM_Q), (.ref s_Measure_NUM_RET), .null, .null, .null, .null, .null, .null, .null, .null, .null, .null, .null, .null, .null, .null, .null] .null := Arv.set Ar5 q5 S5 N5 H5 G5 rfl W5 1 rfl (Nat.le_of_ble_eq_true rfl)
  have EX5 : Ext h0 h5 := own_extW EX3 W5 z_b1
  have N_5 := Fr.snoc X5 N_3 z_b1
  refine own_st (T' := T5) (f' := (mkF m 17 #[(.val (.int x0)), .unset, .unset, .unset] [(.ref b1)])) st5 ?_
  refine own_st (T' := T5) (f' := (mkF m 18 #[(.val (.int x0)), .unset, .unset, .unset] [(.ref b1), (.ref b1)])) (fun _ kont => XS.dup X5.here hx rfl (hb hby at_17) rfl rfl kont) ?_
  refine own_st (T' := T5) (f' := (mkF m 19 #[(.val (.int x0)), .unset, .unset, .unset] [(.int (2 : Int32)), (.ref b1), (.ref b1)])) (fun _ kont => XS.iconst X5.here hx rfl (hb hby at_18) kont) ?_
  obtain ⟨T6, X6, e6, st6⟩ := getS2 X5 hx hZ hown (host := "") (Or.inl (hw _ (List.mem_of_getElem? (i := 8) rfl))) Via.refl e5 (S_Measure_NUM_REL.ext EX5) (g := (mkF m 19 #[(.val (.int x0)), .unset, .unset, .unset] [(.int (2 : Int32)), (.ref b1), (.ref b1)])) rfl (hb hby at_19)
  refine own_st (T' := T6) (f' := (mkF m 22 #[(.val (.int x0)), .unset, .unset, .unset] [(.ref s_Measure_NUM_REL), (.int (2 : Int32)), (.ref b1), (.ref b1)])) st6 ?_
  obtain ⟨cl7, Ar7, q7, S7, N7, H7, G7⟩ := V5
  obtain ⟨T7, h7, X7, e7, W7, st7⟩ := stR X6 hx hZ e6 Ar7 (j := (2 : Int32)) (inb_of S7 ⟨by decide, by decide⟩) rfl (Sto.ofV Ar7 q7 O1 (Ins.self (E_Measure_NUM_REL.ext EX5))) (g := (mkF m 22 #[(.val (.int x0)), .unset, .unset, .unset] [(.ref s_Measure_NUM_REL), (.int (2 : Int32)), (.ref b1), (.ref b1)])) rfl rfl (hb hby at_22)
  have V7 : Arv Z h7 b1 k1 (.object "com/example/prior_art_search/priorartsearch/eval/Measure") (17 : Int32) [(.ref s_Measure_NUM_Q), (.ref s_Measure_NUM_RET), (.ref s_Measure_NUM_REL), .null, .null, .null, .null, .null, .null, .null, .null, .null, .null, .null, .null, .null, .null] .null := Arv.set Ar7 q7 S7 N7 H7 G7 rfl W7 2 rfl (Nat.le_of_ble_eq_true rfl)
  have EX7 : Ext h0 h7 := own_extW EX5 W7 z_b1
  have N_7 := Fr.snoc X7 N_5 z_b1
  refine own_st (T' := T7) (f' := (mkF m 23 #[(.val (.int x0)), .unset, .unset, .unset] [(.ref b1)])) st7 ?_
  refine own_st (T' := T7) (f' := (mkF m 24 #[(.val (.int x0)), .unset, .unset, .unset] [(.ref b1), (.ref b1)])) (fun _ kont => XS.dup X7.here hx rfl (hb hby at_23) rfl rfl kont) ?_
  refine own_st (T' := T7) (f' := (mkF m 25 #[(.val (.int x0)), .unset, .unset, .unset] [(.int (3 : Int32)), (.ref b1), (.ref b1)])) (fun _ kont => XS.iconst X7.here hx rfl (hb hby at_24) kont) ?_
  obtain ⟨T8, X8, e8, st8⟩ := getS2 X7 hx hZ hown (host := "") (Or.inl (hw _ (List.mem_of_getElem? (i := 10) rfl))) Via.refl e7 (S_Measure_NUM_REL_RET.ext EX7) (g := (mkF m 25 #[(.val (.int x0)), .unset, .unset, .unset] [(.int (3 : Int32)), (.ref b1), (.ref b1)])) rfl (hb hby at_25)
  refine own_st (T' := T8) (f' := (mkF m 28 #[(.val (.int x0)), .unset, .unset, .unset] [(.ref s_Measure_NUM_REL_RET), (.int (3 : Int32)), (.ref b1), (.ref b1)])) st8 ?_
  obtain ⟨cl9, Ar9, q9, S9, N9, H9, G9⟩ := V7
  obtain ⟨T9, h9, X9, e9, W9, st9⟩ := stR X8 hx hZ e8 Ar9 (j := (3 : Int32)) (inb_of S9 ⟨by decide, by decide⟩) rfl (Sto.ofV Ar9 q9 O1 (Ins.self (E_Measure_NUM_REL_RET.ext EX7))) (g := (mkF m 28 #[(.val (.int x0)), .unset, .unset, .unset] [(.ref s_Measure_NUM_REL_RET), (.int (3 : Int32)), (.ref b1), (.ref b1)])) rfl rfl (hb hby at_28)
  have V9 : Arv Z h9 b1 k1 (.object "com/example/prior_art_search/priorartsearch/eval/Measure") (17 : Int32) [(.ref s_Measure_NUM_Q), (.ref s_Measure_NUM_RET), (.ref s_Measure_NUM_REL), (.ref s_Measure_NUM_REL_RET), .null, .null, .null, .null, .null, .null, .null, .null, .null, .null, .null, .null, .null] .null := Arv.set Ar9 q9 S9 N9 H9 G9 rfl W9 3 rfl (Nat.le_of_ble_eq_true rfl)
  have EX9 : Ext h0 h9 := own_extW EX7 W9 z_b1
  have N_9 := Fr.snoc X9 N_7 z_b1
  refine own_st (T' := T9) (f' := (mkF m 29 #[(.val (.int x0)), .unset, .unset, .unset] [(.ref b1)])) st9 ?_
  refine own_st (T' := T9) (f' := (mkF m 30 #[(.val (.int x0)), .unset, .unset, .unset] [(.ref b1), (.ref b1)])) (fun _ kont => XS.dup X9.here hx rfl (hb hby at_29) rfl rfl kont) ?_
  refine own_st (T' := T9) (f' := (mkF m 31 #[(.val (.int x0)), .unset, .unset, .unset] [(.int (4 : Int32)), (.ref b1), (.ref b1)])) (fun _ kont => XS.iconst X9.here hx rfl (hb hby at_30) kont) ?_
  obtain ⟨T10, X10, e10, st10⟩ := getS2 X9 hx hZ hown (host := "") (Or.inl (hw _ (List.mem_of_getElem? (i := 12) rfl))) Via.refl e9 (S_Measure_MAP.ext EX9) (g := (mkF m 31 #[(.val (.int x0)), .unset, .unset, .unset] [(.int (4 : Int32)), (.ref b1), (.ref b1)])) rfl (hb hby at_31)
  refine own_st (T' := T10) (f' := (mkF m 34 #[(.val (.int x0)), .unset, .unset, .unset] [(.ref s_Measure_MAP), (.int (4 : Int32)), (.ref b1), (.ref b1)])) st10 ?_
  obtain ⟨cl11, Ar11, q11, S11, N11, H11, G11⟩ := V9
  obtain ⟨T11, h11, X11, e11, W11, st11⟩ := stR X10 hx hZ e10 Ar11 (j := (4 : Int32)) (inb_of S11 ⟨by decide, by decide⟩) rfl (Sto.ofV Ar11 q11 O1 (Ins.self (E_Measure_MAP.ext EX9))) (g := (mkF m 34 #[(.val (.int x0)), .unset, .unset, .unset] [(.ref s_Measure_MAP), (.int (4 : Int32)), (.ref b1), (.ref b1)])) rfl rfl (hb hby at_34)
  have V11 : Arv Z h11 b1 k1 (.object "com/example/prior_art_search/priorartsearch/eval/Measure") (17 : Int32) [(.ref s_Measure_NUM_Q), (.ref s_Measure_NUM_RET), (.ref s_Measure_NUM_REL), (.ref s_Measure_NUM_REL_RET), (.ref s_Measure_MAP), .null, .null, .null, .null, .null, .null, .null, .null, .null, .null, .null, .null] .null := Arv.set Ar11 q11 S11 N11 H11 G11 rfl W11 4 rfl (Nat.le_of_ble_eq_true rfl)
  have EX11 : Ext h0 h11 := own_extW EX9 W11 z_b1
  have N_11 := Fr.snoc X11 N_9 z_b1
  refine own_st (T' := T11) (f' := (mkF m 35 #[(.val (.int x0)), .unset, .unset, .unset] [(.ref b1)])) st11 ?_
  refine own_st (T' := T11) (f' := (mkF m 36 #[(.val (.int x0)), .unset, .unset, .unset] [(.ref b1), (.ref b1)])) (fun _ kont => XS.dup X11.here hx rfl (hb hby at_35) rfl rfl kont) ?_
  refine own_st (T' := T11) (f' := (mkF m 37 #[(.val (.int x0)), .unset, .unset, .unset] [(.int (5 : Int32)), (.ref b1), (.ref b1)])) (fun _ kont => XS.iconst X11.here hx rfl (hb hby at_36) kont) ?_
  obtain ⟨T12, X12, e12, st12⟩ := getS2 X11 hx hZ hown (host := "") (Or.inl (hw _ (List.mem_of_getElem? (i := 14) rfl))) Via.refl e11 (S_Measure_RECIP_RANK.ext EX11) (g := (mkF m 37 #[(.val (.int x0)), .unset, .unset, .unset] [(.int (5 : Int32)), (.ref b1), (.ref b1)])) rfl (hb hby at_37)
  refine own_st (T' := T12) (f' := (mkF m 40 #[(.val (.int x0)), .unset, .unset, .unset] [(.ref s_Measure_RECIP_RANK), (.int (5 : Int32)), (.ref b1), (.ref b1)])) st12 ?_
  obtain ⟨cl13, Ar13, q13, S13, N13, H13, G13⟩ := V11
  obtain ⟨T13, h13, X13, e13, W13, st13⟩ := stR X12 hx hZ e12 Ar13 (j := (5 : Int32)) (inb_of S13 ⟨by decide, by decide⟩) rfl (Sto.ofV Ar13 q13 O1 (Ins.self (E_Measure_RECIP_RANK.ext EX11))) (g := (mkF m 40 #[(.val (.int x0)), .unset, .unset, .unset] [(.ref s_Measure_RECIP_RANK), (.int (5 : Int32)), (.ref b1), (.ref b1)])) rfl rfl (hb hby at_40)
  have V13 : Arv Z h13 b1 k1 (.object "com/example/prior_art_search/priorartsearch/eval/Measure") (17 : Int32) [(.ref s_Measure_NUM_Q), (.ref s_Measure_NUM_RET), (.ref s_Measure_NUM_REL), (.ref s_Measure_NUM_REL_RET), (.ref s_Measure_MAP), (.ref s_Measure_RECIP_RANK), .null, .null, .null, .null, .null, .null, .null, .null, .null, .null, .null] .null := Arv.set Ar13 q13 S13 N13 H13 G13 rfl W13 5 rfl (Nat.le_of_ble_eq_true rfl)
  have EX13 : Ext h0 h13 := own_extW EX11 W13 z_b1
  have N_13 := Fr.snoc X13 N_11 z_b1
  refine own_st (T' := T13) (f' := (mkF m 41 #[(.val (.int x0)), .unset, .unset, .unset] [(.ref b1)])) st13 ?_
  refine own_st (T' := T13) (f' := (mkF m 42 #[(.val (.int x0)), .unset, .unset, .unset] [(.ref b1), (.ref b1)])) (fun _ kont => XS.dup X13.here hx rfl (hb hby at_41) rfl rfl kont) ?_
  refine own_st (T' := T13) (f' := (mkF m 44 #[(.val (.int x0)), .unset, .unset, .unset] [(.int (6 : Int32)), (.ref b1), (.ref b1)])) (fun _ kont => XS.bipush X13.here hx rfl (hb hby at_42) kont) ?_
  obtain ⟨T14, X14, e14, st14⟩ := getS2 X13 hx hZ hown (host := "") (Or.inl (hw _ (List.mem_of_getElem? (i := 16) rfl))) Via.refl e13 (S_Measure_BPREF.ext EX13) (g := (mkF m 44 #[(.val (.int x0)), .unset, .unset, .unset] [(.int (6 : Int32)), (.ref b1), (.ref b1)])) rfl (hb hby at_44)
  refine own_st (T' := T14) (f' := (mkF m 47 #[(.val (.int x0)), .unset, .unset, .unset] [(.ref s_Measure_BPREF), (.int (6 : Int32)), (.ref b1), (.ref b1)])) st14 ?_
  obtain ⟨cl15, Ar15, q15, S15, N15, H15, G15⟩ := V13
  obtain ⟨T15, h15, X15, e15, W15, st15⟩ := stR X14 hx hZ e14 Ar15 (j := (6 : Int32)) (inb_of S15 ⟨by decide, by decide⟩) rfl (Sto.ofV Ar15 q15 O1 (Ins.self (E_Measure_BPREF.ext EX13))) (g := (mkF m 47 #[(.val (.int x0)), .unset, .unset, .unset] [(.ref s_Measure_BPREF), (.int (6 : Int32)), (.ref b1), (.ref b1)])) rfl rfl (hb hby at_47)
  have V15 : Arv Z h15 b1 k1 (.object "com/example/prior_art_search/priorartsearch/eval/Measure") (17 : Int32) [(.ref s_Measure_NUM_Q), (.ref s_Measure_NUM_RET), (.ref s_Measure_NUM_REL), (.ref s_Measure_NUM_REL_RET), (.ref s_Measure_MAP), (.ref s_Measure_RECIP_RANK), (.ref s_Measure_BPREF), .null, .null, .null, .null, .null, .null, .null, .null, .null, .null] .null := Arv.set Ar15 q15 S15 N15 H15 G15 rfl W15 6 rfl (Nat.le_of_ble_eq_true rfl)
  have EX15 : Ext h0 h15 := own_extW EX13 W15 z_b1
  have N_15 := Fr.snoc X15 N_13 z_b1
  refine own_st (T' := T15) (f' := (mkF m 48 #[(.val (.int x0)), .unset, .unset, .unset] [(.ref b1)])) st15 ?_
  refine own_st (T' := T15) (f' := (mkF m 49 #[(.val (.int x0)), .unset, .unset, .unset] [(.ref b1), (.ref b1)])) (fun _ kont => XS.dup X15.here hx rfl (hb hby at_48) rfl rfl kont) ?_
  refine own_st (T' := T15) (f' := (mkF m 51 #[(.val (.int x0)), .unset, .unset, .unset] [(.int (7 : Int32)), (.ref b1), (.ref b1)])) (fun _ kont => XS.bipush X15.here hx rfl (hb hby at_49) kont) ?_
  obtain ⟨T16, X16, e16, st16⟩ := getS2 X15 hx hZ hown (host := "") (Or.inl (hw _ (List.mem_of_getElem? (i := 18) rfl))) Via.refl e15 (S_Measure_P_5.ext EX15) (g := (mkF m 51 #[(.val (.int x0)), .unset, .unset, .unset] [(.int (7 : Int32)), (.ref b1), (.ref b1)])) rfl (hb hby at_51)
  refine own_st (T' := T16) (f' := (mkF m 54 #[(.val (.int x0)), .unset, .unset, .unset] [(.ref s_Measure_P_5), (.int (7 : Int32)), (.ref b1), (.ref b1)])) st16 ?_
  obtain ⟨cl17, Ar17, q17, S17, N17, H17, G17⟩ := V15
  obtain ⟨T17, h17, X17, e17, W17, st17⟩ := stR X16 hx hZ e16 Ar17 (j := (7 : Int32)) (inb_of S17 ⟨by decide, by decide⟩) rfl (Sto.ofV Ar17 q17 O1 (Ins.self (E_Measure_P_5.ext EX15))) (g := (mkF m 54 #[(.val (.int x0)), .unset, .unset, .unset] [(.ref s_Measure_P_5), (.int (7 : Int32)), (.ref b1), (.ref b1)])) rfl rfl (hb hby at_54)
  have V17 : Arv Z h17 b1 k1 (.object "com/example/prior_art_search/priorartsearch/eval/Measure") (17 : Int32) [(.ref s_Measure_NUM_Q), (.ref s_Measure_NUM_RET), (.ref s_Measure_NUM_REL), (.ref s_Measure_NUM_REL_RET), (.ref s_Measure_MAP), (.ref s_Measure_RECIP_RANK), (.ref s_Measure_BPREF), (.ref s_Measure_P_5), .null, .null, .null, .null, .null, .null, .null, .null, .null] .null := Arv.set Ar17 q17 S17 N17 H17 G17 rfl W17 7 rfl (Nat.le_of_ble_eq_true rfl)
  have EX17 : Ext h0 h17 := own_extW EX15 W17 z_b1
  have N_17 := Fr.snoc X17 N_15 z_b1
  refine own_st (T' := T17) (f' := (mkF m 55 #[(.val (.int x0)), .unset, .unset, .unset] [(.ref b1)])) st17 ?_
  refine own_st (T' := T17) (f' := (mkF m 56 #[(.val (.int x0)), .unset, .unset, .unset] [(.ref b1), (.ref b1)])) (fun _ kont => XS.dup X17.here hx rfl (hb hby at_55) rfl rfl kont) ?_
  refine own_st (T' := T17) (f' := (mkF m 58 #[(.val (.int x0)), .unset, .unset, .unset] [(.int (8 : Int32)), (.ref b1), (.ref b1)])) (fun _ kont => XS.bipush X17.here hx rfl (hb hby at_56) kont) ?_
  obtain ⟨T18, X18, e18, st18⟩ := getS2 X17 hx hZ hown (host := "") (Or.inl (hw _ (List.mem_of_getElem? (i := 20) rfl))) Via.refl e17 (S_Measure_P_10.ext EX17) (g := (mkF m 58 #[(.val (.int x0)), .unset, .unset, .unset] [(.int (8 : Int32)), (.ref b1), (.ref b1)])) rfl (hb hby at_58)
  refine own_st (T' := T18) (f' := (mkF m 61 #[(.val (.int x0)), .unset, .unset, .unset] [(.ref s_Measure_P_10), (.int (8 : Int32)), (.ref b1), (.ref b1)])) st18 ?_
  obtain ⟨cl19, Ar19, q19, S19, N19, H19, G19⟩ := V17
  obtain ⟨T19, h19, X19, e19, W19, st19⟩ := stR X18 hx hZ e18 Ar19 (j := (8 : Int32)) (inb_of S19 ⟨by decide, by decide⟩) rfl (Sto.ofV Ar19 q19 O1 (Ins.self (E_Measure_P_10.ext EX17))) (g := (mkF m 61 #[(.val (.int x0)), .unset, .unset, .unset] [(.ref s_Measure_P_10), (.int (8 : Int32)), (.ref b1), (.ref b1)])) rfl rfl (hb hby at_61)
  have V19 : Arv Z h19 b1 k1 (.object "com/example/prior_art_search/priorartsearch/eval/Measure") (17 : Int32) [(.ref s_Measure_NUM_Q), (.ref s_Measure_NUM_RET), (.ref s_Measure_NUM_REL), (.ref s_Measure_NUM_REL_RET), (.ref s_Measure_MAP), (.ref s_Measure_RECIP_RANK), (.ref s_Measure_BPREF), (.ref s_Measure_P_5), (.ref s_Measure_P_10), .null, .null, .null, .null, .null, .null, .null, .null] .null := Arv.set Ar19 q19 S19 N19 H19 G19 rfl W19 8 rfl (Nat.le_of_ble_eq_true rfl)
  have EX19 : Ext h0 h19 := own_extW EX17 W19 z_b1
  have N_19 := Fr.snoc X19 N_17 z_b1
  refine own_st (T' := T19) (f' := (mkF m 62 #[(.val (.int x0)), .unset, .unset, .unset] [(.ref b1)])) st19 ?_
  refine own_st (T' := T19) (f' := (mkF m 63 #[(.val (.int x0)), .unset, .unset, .unset] [(.ref b1), (.ref b1)])) (fun _ kont => XS.dup X19.here hx rfl (hb hby at_62) rfl rfl kont) ?_
  refine own_st (T' := T19) (f' := (mkF m 65 #[(.val (.int x0)), .unset, .unset, .unset] [(.int (9 : Int32)), (.ref b1), (.ref b1)])) (fun _ kont => XS.bipush X19.here hx rfl (hb hby at_63) kont) ?_
  obtain ⟨T20, X20, e20, st20⟩ := getS2 X19 hx hZ hown (host := "") (Or.inl (hw _ (List.mem_of_getElem? (i := 22) rfl))) Via.refl e19 (S_Measure_P_100.ext EX19) (g := (mkF m 65 #[(.val (.int x0)), .unset, .unset, .unset] [(.int (9 : Int32)), (.ref b1), (.ref b1)])) rfl (hb hby at_65)
  refine own_st (T' := T20) (f' := (mkF m 68 #[(.val (.int x0)), .unset, .unset, .unset] [(.ref s_Measure_P_100), (.int (9 : Int32)), (.ref b1), (.ref b1)])) st20 ?_
  obtain ⟨cl21, Ar21, q21, S21, N21, H21, G21⟩ := V19
  obtain ⟨T21, h21, X21, e21, W21, st21⟩ := stR X20 hx hZ e20 Ar21 (j := (9 : Int32)) (inb_of S21 ⟨by decide, by decide⟩) rfl (Sto.ofV Ar21 q21 O1 (Ins.self (E_Measure_P_100.ext EX19))) (g := (mkF m 68 #[(.val (.int x0)), .unset, .unset, .unset] [(.ref s_Measure_P_100), (.int (9 : Int32)), (.ref b1), (.ref b1)])) rfl rfl (hb hby at_68)
  have V21 : Arv Z h21 b1 k1 (.object "com/example/prior_art_search/priorartsearch/eval/Measure") (17 : Int32) [(.ref s_Measure_NUM_Q), (.ref s_Measure_NUM_RET), (.ref s_Measure_NUM_REL), (.ref s_Measure_NUM_REL_RET), (.ref s_Measure_MAP), (.ref s_Measure_RECIP_RANK), (.ref s_Measure_BPREF), (.ref s_Measure_P_5), (.ref s_Measure_P_10), (.ref s_Measure_P_100), .null, .null, .null, .null, .null, .null, .null] .null := Arv.set Ar21 q21 S21 N21 H21 G21 rfl W21 9 rfl (Nat.le_of_ble_eq_true rfl)
  have EX21 : Ext h0 h21 := own_extW EX19 W21 z_b1
  have N_21 := Fr.snoc X21 N_19 z_b1
  refine own_st (T' := T21) (f' := (mkF m 69 #[(.val (.int x0)), .unset, .unset, .unset] [(.ref b1)])) st21 ?_
  refine own_st (T' := T21) (f' := (mkF m 70 #[(.val (.int x0)), .unset, .unset, .unset] [(.ref b1), (.ref b1)])) (fun _ kont => XS.dup X21.here hx rfl (hb hby at_69) rfl rfl kont) ?_
  refine own_st (T' := T21) (f' := (mkF m 72 #[(.val (.int x0)), .unset, .unset, .unset] [(.int (10 : Int32)), (.ref b1), (.ref b1)])) (fun _ kont => XS.bipush X21.here hx rfl (hb hby at_70) kont) ?_
  obtain ⟨T22, X22, e22, st22⟩ := getS2 X21 hx hZ hown (host := "") (Or.inl (hw _ (List.mem_of_getElem? (i := 24) rfl))) Via.refl e21 (S_Measure_RECALL_5.ext EX21) (g := (mkF m 72 #[(.val (.int x0)), .unset, .unset, .unset] [(.int (10 : Int32)), (.ref b1), (.ref b1)])) rfl (hb hby at_72)
  refine own_st (T' := T22) (f' := (mkF m 75 #[(.val (.int x0)), .unset, .unset, .unset] [(.ref s_Measure_RECALL_5), (.int (10 : Int32)), (.ref b1), (.ref b1)])) st22 ?_
  obtain ⟨cl23, Ar23, q23, S23, N23, H23, G23⟩ := V21
  obtain ⟨T23, h23, X23, e23, W23, st23⟩ := stR X22 hx hZ e22 Ar23 (j := (10 : Int32)) (inb_of S23 ⟨by decide, by decide⟩) rfl (Sto.ofV Ar23 q23 O1 (Ins.self (E_Measure_RECALL_5.ext EX21))) (g := (mkF m 75 #[(.val (.int x0)), .unset, .unset, .unset] [(.ref s_Measure_RECALL_5), (.int (10 : Int32)), (.ref b1), (.ref b1)])) rfl rfl (hb hby at_75)
  have V23 : Arv Z h23 b1 k1 (.object "com/example/prior_art_search/priorartsearch/eval/Measure") (17 : Int32) [(.ref s_Measure_NUM_Q), (.ref s_Measure_NUM_RET), (.ref s_Measure_NUM_REL), (.ref s_Measure_NUM_REL_RET), (.ref s_Measure_MAP), (.ref s_Measure_RECIP_RANK), (.ref s_Measure_BPREF), (.ref s_Measure_P_5), (.ref s_Measure_P_10), (.ref s_Measure_P_100), (.ref s_Measure_RECALL_5), .null, .null, .null, .null, .null, .null] .null := Arv.set Ar23 q23 S23 N23 H23 G23 rfl W23 10 rfl (Nat.le_of_ble_eq_true rfl)
  have EX23 : Ext h0 h23 := own_extW EX21 W23 z_b1
  have N_23 := Fr.snoc X23 N_21 z_b1
  refine own_st (T' := T23) (f' := (mkF m 76 #[(.val (.int x0)), .unset, .unset, .unset] [(.ref b1)])) st23 ?_
  refine own_st (T' := T23) (f' := (mkF m 77 #[(.val (.int x0)), .unset, .unset, .unset] [(.ref b1), (.ref b1)])) (fun _ kont => XS.dup X23.here hx rfl (hb hby at_76) rfl rfl kont) ?_
  refine own_st (T' := T23) (f' := (mkF m 79 #[(.val (.int x0)), .unset, .unset, .unset] [(.int (11 : Int32)), (.ref b1), (.ref b1)])) (fun _ kont => XS.bipush X23.here hx rfl (hb hby at_77) kont) ?_
  obtain ⟨T24, X24, e24, st24⟩ := getS2 X23 hx hZ hown (host := "") (Or.inl (hw _ (List.mem_of_getElem? (i := 26) rfl))) Via.refl e23 (S_Measure_RECALL_10.ext EX23) (g := (mkF m 79 #[(.val (.int x0)), .unset, .unset, .unset] [(.int (11 : Int32)), (.ref b1), (.ref b1)])) rfl (hb hby at_79)
  refine own_st (T' := T24) (f' := (mkF m 82 #[(.val (.int x0)), .unset, .unset, .unset] [(.ref s_Measure_RECALL_10), (.int (11 : Int32)), (.ref b1), (.ref b1)])) st24 ?_
  obtain ⟨cl25, Ar25, q25, S25, N25, H25, G25⟩ := V23
  obtain ⟨T25, h25, X25, e25, W25, st25⟩ := stR X24 hx hZ e24 Ar25 (j := (11 : Int32)) (inb_of S25 ⟨by decide, by decide⟩) rfl (Sto.ofV Ar25 q25 O1 (Ins.self (E_Measure_RECALL_10.ext EX23))) (g := (mkF m 82 #[(.val (.int x0)), .unset, .unset, .unset] [(.ref s_Measure_RECALL_10), (.int (11 : Int32)), (.ref b1), (.ref b1)])) rfl rfl (hb hby at_82)
  have V25 : Arv Z h25 b1 k1 (.object "com/example/prior_art_search/priorartsearch/eval/Measure") (17 : Int32) [(.ref s_Measure_NUM_Q), (.ref s_Measure_NUM_RET), (.ref s_Measure_NUM_REL), (.ref s_Measure_NUM_REL_RET), (.ref s_Measure_MAP), (.ref s_Measure_RECIP_RANK), (.ref s_Measure_BPREF), (.ref s_Measure_P_5), (.ref s_Measure_P_10), (.ref s_Measure_P_100), (.ref s_Measure_RECALL_5), (.ref s_Measure_RECALL_10), .null, .null, .null, .null, .null] .null := Arv.set Ar25 q25 S25 N25 H25 G25 rfl W25 11 rfl (Nat.le_of_ble_eq_true rfl)
  have EX25 : Ext h0 h25 := own_extW EX23 W25 z_b1
  have N_25 := Fr.snoc X25 N_23 z_b1
  refine own_st (T' := T25) (f' := (mkF m 83 #[(.val (.int x0)), .unset, .unset, .unset] [(.ref b1)])) st25 ?_
  refine own_st (T' := T25) (f' := (mkF m 84 #[(.val (.int x0)), .unset, .unset, .unset] [(.ref b1), (.ref b1)])) (fun _ kont => XS.dup X25.here hx rfl (hb hby at_83) rfl rfl kont) ?_
  refine own_st (T' := T25) (f' := (mkF m 86 #[(.val (.int x0)), .unset, .unset, .unset] [(.int (12 : Int32)), (.ref b1), (.ref b1)])) (fun _ kont => XS.bipush X25.here hx rfl (hb hby at_84) kont) ?_
  obtain ⟨T26, X26, e26, st26⟩ := getS2 X25 hx hZ hown (host := "") (Or.inl (hw _ (List.mem_of_getElem? (i := 28) rfl))) Via.refl e25 (S_Measure_RECALL_100.ext EX25) (g := (mkF m 86 #[(.val (.int x0)), .unset, .unset, .unset] [(.int (12 : Int32)), (.ref b1), (.ref b1)])) rfl (hb hby at_86)
  refine own_st (T' := T26) (f' := (mkF m 89 #[(.val (.int x0)), .unset, .unset, .unset] [(.ref s_Measure_RECALL_100), (.int (12 : Int32)), (.ref b1), (.ref b1)])) st26 ?_
  obtain ⟨cl27, Ar27, q27, S27, N27, H27, G27⟩ := V25
  obtain ⟨T27, h27, X27, e27, W27, st27⟩ := stR X26 hx hZ e26 Ar27 (j := (12 : Int32)) (inb_of S27 ⟨by decide, by decide⟩) rfl (Sto.ofV Ar27 q27 O1 (Ins.self (E_Measure_RECALL_100.ext EX25))) (g := (mkF m 89 #[(.val (.int x0)), .unset, .unset, .unset] [(.ref s_Measure_RECALL_100), (.int (12 : Int32)), (.ref b1), (.ref b1)])) rfl rfl (hb hby at_89)
  have V27 : Arv Z h27 b1 k1 (.object "com/example/prior_art_search/priorartsearch/eval/Measure") (17 : Int32) [(.ref s_Measure_NUM_Q), (.ref s_Measure_NUM_RET), (.ref s_Measure_NUM_REL), (.ref s_Measure_NUM_REL_RET), (.ref s_Measure_MAP), (.ref s_Measure_RECIP_RANK), (.ref s_Measure_BPREF), (.ref s_Measure_P_5), (.ref s_Measure_P_10), (.ref s_Measure_P_100), (.ref s_Measure_RECALL_5), (.ref s_Measure_RECALL_10), (.ref s_Measure_RECALL_100), .null, .null, .null, .null] .null := Arv.set Ar27 q27 S27 N27 H27 G27 rfl W27 12 rfl (Nat.le_of_ble_eq_true rfl)
  have EX27 : Ext h0 h27 := own_extW EX25 W27 z_b1
  have N_27 := Fr.snoc X27 N_25 z_b1
  refine own_st (T' := T27) (f' := (mkF m 90 #[(.val (.int x0)), .unset, .unset, .unset] [(.ref b1)])) st27 ?_
  refine own_st (T' := T27) (f' := (mkF m 91 #[(.val (.int x0)), .unset, .unset, .unset] [(.ref b1), (.ref b1)])) (fun _ kont => XS.dup X27.here hx rfl (hb hby at_90) rfl rfl kont) ?_
  refine own_st (T' := T27) (f' := (mkF m 93 #[(.val (.int x0)), .unset, .unset, .unset] [(.int (13 : Int32)), (.ref b1), (.ref b1)])) (fun _ kont => XS.bipush X27.here hx rfl (hb hby at_91) kont) ?_
  obtain ⟨T28, X28, e28, st28⟩ := getS2 X27 hx hZ hown (host := "") (Or.inl (hw _ (List.mem_of_getElem? (i := 30) rfl))) Via.refl e27 (S_Measure_RECALL_1000.ext EX27) (g := (mkF m 93 #[(.val (.int x0)), .unset, .unset, .unset] [(.int (13 : Int32)), (.ref b1), (.ref b1)])) rfl (hb hby at_93)
  refine own_st (T' := T28) (f' := (mkF m 96 #[(.val (.int x0)), .unset, .unset, .unset] [(.ref s_Measure_RECALL_1000), (.int (13 : Int32)), (.ref b1), (.ref b1)])) st28 ?_
  obtain ⟨cl29, Ar29, q29, S29, N29, H29, G29⟩ := V27
  obtain ⟨T29, h29, X29, e29, W29, st29⟩ := stR X28 hx hZ e28 Ar29 (j := (13 : Int32)) (inb_of S29 ⟨by decide, by decide⟩) rfl (Sto.ofV Ar29 q29 O1 (Ins.self (E_Measure_RECALL_1000.ext EX27))) (g := (mkF m 96 #[(.val (.int x0)), .unset, .unset, .unset] [(.ref s_Measure_RECALL_1000), (.int (13 : Int32)), (.ref b1), (.ref b1)])) rfl rfl (hb hby at_96)
  have V29 : Arv Z h29 b1 k1 (.object "com/example/prior_art_search/priorartsearch/eval/Measure") (17 : Int32) [(.ref s_Measure_NUM_Q), (.ref s_Measure_NUM_RET), (.ref s_Measure_NUM_REL), (.ref s_Measure_NUM_REL_RET), (.ref s_Measure_MAP), (.ref s_Measure_RECIP_RANK), (.ref s_Measure_BPREF), (.ref s_Measure_P_5), (.ref s_Measure_P_10), (.ref s_Measure_P_100), (.ref s_Measure_RECALL_5), (.ref s_Measure_RECALL_10), (.ref s_Measure_RECALL_100), (.ref s_Measure_RECALL_1000), .null, .null, .null] .null := Arv.set Ar29 q29 S29 N29 H29 G29 rfl W29 13 rfl (Nat.le_of_ble_eq_true rfl)
  have EX29 : Ext h0 h29 := own_extW EX27 W29 z_b1
  have N_29 := Fr.snoc X29 N_27 z_b1
  refine own_st (T' := T29) (f' := (mkF m 97 #[(.val (.int x0)), .unset, .unset, .unset] [(.ref b1)])) st29 ?_
  refine own_st (T' := T29) (f' := (mkF m 98 #[(.val (.int x0)), .unset, .unset, .unset] [(.ref b1), (.ref b1)])) (fun _ kont => XS.dup X29.here hx rfl (hb hby at_97) rfl rfl kont) ?_
  refine own_st (T' := T29) (f' := (mkF m 100 #[(.val (.int x0)), .unset, .unset, .unset] [(.int (14 : Int32)), (.ref b1), (.ref b1)])) (fun _ kont => XS.bipush X29.here hx rfl (hb hby at_98) kont) ?_
  obtain ⟨T30, X30, e30, st30⟩ := getS2 X29 hx hZ hown (host := "") (Or.inl (hw _ (List.mem_of_getElem? (i := 32) rfl))) Via.refl e29 (S_Measure_NDCG.ext EX29) (g := (mkF m 100 #[(.val (.int x0)), .unset, .unset, .unset] [(.int (14 : Int32)), (.ref b1), (.ref b1)])) rfl (hb hby at_100)
  refine own_st (T' := T30) (f' := (mkF m 103 #[(.val (.int x0)), .unset, .unset, .unset] [(.ref s_Measure_NDCG), (.int (14 : Int32)), (.ref b1), (.ref b1)])) st30 ?_
  obtain ⟨cl31, Ar31, q31, S31, N31, H31, G31⟩ := V29
  obtain ⟨T31, h31, X31, e31, W31, st31⟩ := stR X30 hx hZ e30 Ar31 (j := (14 : Int32)) (inb_of S31 ⟨by decide, by decide⟩) rfl (Sto.ofV Ar31 q31 O1 (Ins.self (E_Measure_NDCG.ext EX29))) (g := (mkF m 103 #[(.val (.int x0)), .unset, .unset, .unset] [(.ref s_Measure_NDCG), (.int (14 : Int32)), (.ref b1), (.ref b1)])) rfl rfl (hb hby at_103)
  have V31 : Arv Z h31 b1 k1 (.object "com/example/prior_art_search/priorartsearch/eval/Measure") (17 : Int32) [(.ref s_Measure_NUM_Q), (.ref s_Measure_NUM_RET), (.ref s_Measure_NUM_REL), (.ref s_Measure_NUM_REL_RET), (.ref s_Measure_MAP), (.ref s_Measure_RECIP_RANK), (.ref s_Measure_BPREF), (.ref s_Measure_P_5), (.ref s_Measure_P_10), (.ref s_Measure_P_100), (.ref s_Measure_RECALL_5), (.ref s_Measure_RECALL_10), (.ref s_Measure_RECALL_100), (.ref s_Measure_RECALL_1000), (.ref s_Measure_NDCG), .null, .null] .null := Arv.set Ar31 q31 S31 N31 H31 G31 rfl W31 14 rfl (Nat.le_of_ble_eq_true rfl)
  have EX31 : Ext h0 h31 := own_extW EX29 W31 z_b1
  have N_31 := Fr.snoc X31 N_29 z_b1
  refine own_st (T' := T31) (f' := (mkF m 104 #[(.val (.int x0)), .unset, .unset, .unset] [(.ref b1)])) st31 ?_
  refine own_st (T' := T31) (f' := (mkF m 105 #[(.val (.int x0)), .unset, .unset, .unset] [(.ref b1), (.ref b1)])) (fun _ kont => XS.dup X31.here hx rfl (hb hby at_104) rfl rfl kont) ?_
  refine own_st (T' := T31) (f' := (mkF m 107 #[(.val (.int x0)), .unset, .unset, .unset] [(.int (15 : Int32)), (.ref b1), (.ref b1)])) (fun _ kont => XS.bipush X31.here hx rfl (hb hby at_105) kont) ?_
  obtain ⟨T32, X32, e32, st32⟩ := getS2 X31 hx hZ hown (host := "") (Or.inl (hw _ (List.mem_of_getElem? (i := 34) rfl))) Via.refl e31 (S_Measure_PRES_100.ext EX31) (g := (mkF m 107 #[(.val (.int x0)), .unset, .unset, .unset] [(.int (15 : Int32)), (.ref b1), (.ref b1)])) rfl (hb hby at_107)
  refine own_st (T' := T32) (f' := (mkF m 110 #[(.val (.int x0)), .unset, .unset, .unset] [(.ref s_Measure_PRES_100), (.int (15 : Int32)), (.ref b1), (.ref b1)])) st32 ?_
  obtain ⟨cl33, Ar33, q33, S33, N33, H33, G33⟩ := V31
  obtain ⟨T33, h33, X33, e33, W33, st33⟩ := stR X32 hx hZ e32 Ar33 (j := (15 : Int32)) (inb_of S33 ⟨by decide, by decide⟩) rfl (Sto.ofV Ar33 q33 O1 (Ins.self (E_Measure_PRES_100.ext EX31))) (g := (mkF m 110 #[(.val (.int x0)), .unset, .unset, .unset] [(.ref s_Measure_PRES_100), (.int (15 : Int32)), (.ref b1), (.ref b1)])) rfl rfl (hb hby at_110)
  have V33 : Arv Z h33 b1 k1 (.object "com/example/prior_art_search/priorartsearch/eval/Measure") (17 : Int32) [(.ref s_Measure_NUM_Q), (.ref s_Measure_NUM_RET), (.ref s_Measure_NUM_REL), (.ref s_Measure_NUM_REL_RET), (.ref s_Measure_MAP), (.ref s_Measure_RECIP_RANK), (.ref s_Measure_BPREF), (.ref s_Measure_P_5), (.ref s_Measure_P_10), (.ref s_Measure_P_100), (.ref s_Measure_RECALL_5), (.ref s_Measure_RECALL_10), (.ref s_Measure_RECALL_100), (.ref s_Measure_RECALL_1000), (.ref s_Measure_NDCG), (.ref s_Measure_PRES_100), .null] .null := Arv.set Ar33 q33 S33 N33 H33 G33 rfl W33 15 rfl (Nat.le_of_ble_eq_true rfl)
  have EX33 : Ext h0 h33 := own_extW EX31 W33 z_b1
  have N_33 := Fr.snoc X33 N_31 z_b1
  refine own_st (T' := T33) (f' := (mkF m 111 #[(.val (.int x0)), .unset, .unset, .unset] [(.ref b1)])) st33 ?_
  refine own_st (T' := T33) (f' := (mkF m 112 #[(.val (.int x0)), .unset, .unset, .unset] [(.ref b1), (.ref b1)])) (fun _ kont => XS.dup X33.here hx rfl (hb hby at_111) rfl rfl kont) ?_
  refine own_st (T' := T33) (f' := (mkF m 114 #[(.val (.int x0)), .unset, .unset, .unset] [(.int (16 : Int32)), (.ref b1), (.ref b1)])) (fun _ kont => XS.bipush X33.here hx rfl (hb hby at_112) kont) ?_
  obtain ⟨T34, X34, e34, st34⟩ := getS2 X33 hx hZ hown (host := "") (Or.inl (hw _ (List.mem_of_getElem? (i := 36) rfl))) Via.refl e33 (S_Measure_PRES_1000.ext EX33) (g := (mkF m 114 #[(.val (.int x0)), .unset, .unset, .unset] [(.int (16 : Int32)), (.ref b1), (.ref b1)])) rfl (hb hby at_114)
  refine own_st (T' := T34) (f' := (mkF m 117 #[(.val (.int x0)), .unset, .unset, .unset] [(.ref s_Measure_PRES_1000), (.int (16 : Int32)), (.ref b1), (.ref b1)])) st34 ?_
  obtain ⟨cl35, Ar35, q35, S35, N35, H35, G35⟩ := V33
  obtain ⟨T35, h35, X35, e35, W35, st35⟩ := stR X34 hx hZ e34 Ar35 (j := (16 : Int32)) (inb_of S35 ⟨by decide, by decide⟩) rfl (Sto.ofV Ar35 q35 O1 (Ins.self (E_Measure_PRES_1000.ext EX33))) (g := (mkF m 117 #[(.val (.int x0)), .unset, .unset, .unset] [(.ref s_Measure_PRES_1000), (.int (16 : Int32)), (.ref b1), (.ref b1)])) rfl rfl (hb hby at_117)
  have V35 : Arv Z h35 b1 k1 (.object "com/example/prior_art_search/priorartsearch/eval/Measure") (17 : Int32) [(.ref s_Measure_NUM_Q), (.ref s_Measure_NUM_RET), (.ref s_Measure_NUM_REL), (.ref s_Measure_NUM_REL_RET), (.ref s_Measure_MAP), (.ref s_Measure_RECIP_RANK), (.ref s_Measure_BPREF), (.ref s_Measure_P_5), (.ref s_Measure_P_10), (.ref s_Measure_P_100), (.ref s_Measure_RECALL_5), (.ref s_Measure_RECALL_10), (.ref s_Measure_RECALL_100), (.ref s_Measure_RECALL_1000), (.ref s_Measure_NDCG), (.ref s_Measure_PRES_100), (.ref s_Measure_PRES_1000)] .null := Arv.set Ar35 q35 S35 N35 H35 G35 rfl W35 16 rfl (Nat.le_of_ble_eq_true rfl)
  have EX35 : Ext h0 h35 := own_extW EX33 W35 z_b1
  have N_35 := Fr.snoc X35 N_33 z_b1
  refine own_st (T' := T35) (f' := (mkF m 118 #[(.val (.int x0)), .unset, .unset, .unset] [(.ref b1)])) st35 ?_
  refine own_st (T' := T35) (f' := (mkF m 119 #[(.val (.int x0)), (.val (.ref b1)), .unset, .unset] [])) (fun _ kont => XS.astoreN X35.here hx rfl (hb hby at_118) rfl rfl (l' := #[(.val (.int x0)), (.val (.ref b1)), .unset, .unset]) rfl kont) ?_
  refine own_st (T' := T35) (f' := (mkF m 120 #[(.val (.int x0)), (.val (.ref b1)), .unset, .unset] [(.int x0)])) (fun _ kont => XS.iloadN X35.here hx rfl (hb hby at_119) rfl kont) ?_
  refine own_st (T' := T35) (f' := (mkF m 122 #[(.val (.int x0)), (.val (.ref b1)), .unset, .unset] [(.int (2147483647 : Int32)), (.int x0)])) (fun _ kont => X35.ldcInt hx hown (mvT hZ (hw _ (List.mem_of_getElem? (i := 38) rfl))) (g := (mkF m 120 #[(.val (.int x0)), (.val (.ref b1)), .unset, .unset] [(.int x0)])) rfl (hb hby at_120) _ kont) ?_
  refine own_st (T' := T35) (f' := (mkF m 123 #[(.val (.int x0)), (.val (.ref b1)), .unset, .unset] [(.int (x0 &&& (2147483647 : Int32)))])) (fun _ kont => XS.iand X35.here hx rfl (hb hby at_122) rfl kont) ?_
  refine own_st (T' := T35) (f' := (mkF m 125 #[(.val (.int x0)), (.val (.ref b1)), .unset, .unset] [(.int (17 : Int32)), (.int (x0 &&& (2147483647 : Int32)))])) (fun _ kont => XS.bipush X35.here hx rfl (hb hby at_123) kont) ?_
  refine own_st (T' := T35) (f' := (mkF m 126 #[(.val (.int x0)), (.val (.ref b1)), .unset, .unset] [(.int ((x0 &&& (2147483647 : Int32)) % (17 : Int32)))])) (fun _ kont => iremM X35 hx rfl (hb hby at_125) rfl (by decide) kont) ?_
  obtain ⟨i, h_i⟩ : ∃ z, z = ((x0 &&& (2147483647 : Int32)) % (17 : Int32)) := ⟨_, rfl⟩
  rw [← h_i]
  rcases own_cases17 i (h_i ▸ own_mod17 x0) with rfl | rfl | rfl | rfl | rfl | rfl | rfl | rfl | rfl | rfl | rfl | rfl | rfl | rfl | rfl | rfl | rfl
  · skip  -- i = 0
    refine own_st (T' := T35) (f' := (mkF m 127 #[(.val (.int x0)), (.val (.ref b1)), (.val (.int (0 : Int32))), .unset] [])) (fun _ kont => XS.istoreN X35.here hx rfl (hb hby at_126) rfl (l' := #[(.val (.int x0)), (.val (.ref b1)), (.val (.int (0 : Int32))), .unset]) rfl kont) ?_
    refine own_st (T' := T35) (f' := (mkF m 128 #[(.val (.int x0)), (.val (.ref b1)), (.val (.int (0 : Int32))), .unset] [(.int (0 : Int32))])) (fun _ kont => XS.iloadN X35.here hx rfl (hb hby at_127) rfl kont) ?_
    refine own_st (T' := T35) (f' := (mkF m 135 #[(.val (.int x0)), (.val (.ref b1)), (.val (.int (0 : Int32))), .unset] [])) (fun _ kont => XS.ifYes X35.here hx rfl (pc0 := 128) (pc' := 135) rfl (hb hby at_128) rfl ((if0 _ _).trans (teq (by decide : (0 : Int32) = (0 : Int32))).1) (by decide) (by decide) kont) ?_
    refine own_st (T' := T35) (f' := (mkF m 136 #[(.val (.int x0)), (.val (.ref b1)), (.val (.int (0 : Int32))), .unset] [(.int (0 : Int32))])) (fun _ kont => XS.iconst X35.here hx rfl (hb hby at_135) kont) ?_
    refine own_st (T' := T35) (f' := (mkF m 137 #[(.val (.int x0)), (.val (.ref b1)), (.val (.int (0 : Int32))), (.val (.int (0 : Int32)))] [])) (fun _ kont => XS.istoreN X35.here hx rfl (hb hby at_136) rfl (l' := #[(.val (.int x0)), (.val (.ref b1)), (.val (.int (0 : Int32))), (.val (.int (0 : Int32)))]) rfl kont) ?_
    refine own_st (T' := T35) (f' := (mkF m 138 #[(.val (.int x0)), (.val (.ref b1)), (.val (.int (0 : Int32))), (.val (.int (0 : Int32)))] [(.ref b1)])) (fun _ kont => XS.aloadN X35.here hx rfl (hb hby at_137) rfl rfl kont) ?_
    refine own_st (T' := T35) (f' := (mkF m 139 #[(.val (.int x0)), (.val (.ref b1)), (.val (.int (0 : Int32))), (.val (.int (0 : Int32)))] [(.int (0 : Int32)), (.ref b1)])) (fun _ kont => XS.iloadN X35.here hx rfl (hb hby at_138) rfl kont) ?_
    obtain ⟨cl36, Ar36, q36, S36, N36, H36, G36⟩ := V35
    have hin36 : ¬ ((0 : Int32) < 0 ∨ cl36.slots.size ≤ ((0 : Int32)).toNatClampNeg) := inb_of S36 ⟨by decide, by decide⟩
    refine own_st (T' := T35) (f' := (mkF m 140 #[(.val (.int x0)), (.val (.ref b1)), (.val (.int (0 : Int32))), (.val (.int (0 : Int32)))] [(.ref s_Measure_NUM_Q)])) (fun _ kont => X35.aaload hx (j := (0 : Int32)) (v := (.ref s_Measure_NUM_Q)) (by rw [e35]; exact Ar36.1) (State.isArrayOf_alike hZ.alike Ar36.2.1) rfl Ar36.2.2 hin36 (Has.at H36 hin36 rfl) (g := (mkF m 139 #[(.val (.int x0)), (.val (.ref b1)), (.val (.int (0 : Int32))), (.val (.int (0 : Int32)))] [(.int (0 : Int32)), (.ref b1)])) rfl rfl (hb hby at_139) _ kont) ?_
    obtain ⟨v37, T37, L37, hQ37, X37, st37⟩ := own_callV X35 hx hZ e35 hown (hw _ (List.mem_of_getElem? (i := 39) rfl)) (hw _ (List.mem_of_getElem? (i := 40) rfl)) (hw _ (List.mem_of_getElem? (i := 42) rfl)) (hw _ (List.mem_of_getElem? (i := 41) rfl)) (by decide) (b := s_Measure_NUM_Q) (E_Measure_NUM_Q.ext EX35) (hw _ (List.mem_of_getElem? (i := 43) rfl)) (hw _ (List.mem_of_getElem? (i := 3) rfl)) (own_k1_1 l Z a0 hw s_Measure_NUM_Q s_Kind_TOPICS h35 (F_Measure_NUM_Q_kind.ext EX35) (S_Kind_TOPICS.ext EX35)) (g := (mkF m 140 #[(.val (.int x0)), (.val (.ref b1)), (.val (.int (0 : Int32))), (.val (.int (0 : Int32)))] [(.ref s_Measure_NUM_Q)])) rfl (by rw [hml]; rfl) rfl (argsL := []) (rest := []) rfl (lenOf own_pd0 rfl) rfl (hb hby at_140) (Nat.le_of_ble_eq_true rfl) (Nat.le_of_ble_eq_true rfl) (Nat.le_of_ble_eq_true rfl) (Nat.le_of_ble_eq_true rfl)
    obtain ⟨rfl, rfl, e37⟩ := hQ37
    rw [List.append_nil] at X37
    refine own_st (T' := T37) (f' := (mkF m 143 #[(.val (.int x0)), (.val (.ref b1)), (.val (.int (0 : Int32))), (.val (.int (0 : Int32)))] [(.int (0 : Int32))])) st37 ?_
    refine own_st (T' := T37) (f' := (mkF m 144 #[(.val (.int x0)), (.val (.ref b1)), (.val (.int (0 : Int32))), (.val (.int (0 : Int32)))] [(.int (0 : Int32)), (.int (0 : Int32))])) (fun _ kont => XS.iloadN X37.here hx rfl (hb hby at_143) rfl kont) ?_
    refine own_st (T' := T37) (f' := (mkF m 147 #[(.val (.int x0)), (.val (.ref b1)), (.val (.int (0 : Int32))), (.val (.int (0 : Int32)))] [])) (fun _ kont => XS.icmpNo X37.here hx rfl (hb hby at_144) rfl (teq (by decide : (0 : Int32) = (0 : Int32))).2 kont) ?_
    refine own_st (T' := T37) (f' := (mkF m 148 #[(.val (.int x0)), (.val (.ref b1)), (.val (.int (0 : Int32))), (.val (.int (0 : Int32)))] [(.int (1 : Int32))])) (fun _ kont => XS.iconst X37.here hx rfl (hb hby at_147) kont) ?_
    refine own_st (T' := T37) (f' := (mkF m 152 #[(.val (.int x0)), (.val (.ref b1)), (.val (.int (0 : Int32))), (.val (.int (0 : Int32)))] [(.int (1 : Int32))])) (fun _ kont => XS.goto X37.here hx rfl (pc0 := 148) (pc' := 152) rfl (hb hby at_148) (by decide) (by decide) kont) ?_
    exact own_retN X37 hx hlk (t := .boolean) hret (by simp) (hb hby at_152) ⟨rfl, N_35⟩ (by decide) (by decide)
  · skip  -- i = 1
    refine own_st (T' := T35) (f' := (mkF m 127 #[(.val (.int x0)), (.val (.ref b1)), (.val (.int (1 : Int32))), .unset] [])) (fun _ kont => XS.istoreN X35.here hx rfl (hb hby at_126) rfl (l' := #[(.val (.int x0)), (.val (.ref b1)), (.val (.int (1 : Int32))), .unset]) rfl kont) ?_
    refine own_st (T' := T35) (f' := (mkF m 128 #[(.val (.int x0)), (.val (.ref b1)), (.val (.int (1 : Int32))), .unset] [(.int (1 : Int32))])) (fun _ kont => XS.iloadN X35.here hx rfl (hb hby at_127) rfl kont) ?_
    refine own_st (T' := T35) (f' := (mkF m 131 #[(.val (.int x0)), (.val (.ref b1)), (.val (.int (1 : Int32))), .unset] [])) (fun _ kont => XS.ifNo X35.here hx rfl (hb hby at_128) rfl ((if0 _ _).trans (feq (by decide : ¬ ((1 : Int32) = (0 : Int32)))).1) kont) ?_
    refine own_st (T' := T35) (f' := (mkF m 132 #[(.val (.int x0)), (.val (.ref b1)), (.val (.int (1 : Int32))), .unset] [(.int (1 : Int32))])) (fun _ kont => XS.iconst X35.here hx rfl (hb hby at_131) kont) ?_
    refine own_st (T' := T35) (f' := (mkF m 136 #[(.val (.int x0)), (.val (.ref b1)), (.val (.int (1 : Int32))), .unset] [(.int (1 : Int32))])) (fun _ kont => XS.goto X35.here hx rfl (pc0 := 132) (pc' := 136) rfl (hb hby at_132) (by decide) (by decide) kont) ?_
    refine own_st (T' := T35) (f' := (mkF m 137 #[(.val (.int x0)), (.val (.ref b1)), (.val (.int (1 : Int32))), (.val (.int (1 : Int32)))] [])) (fun _ kont => XS.istoreN X35.here hx rfl (hb hby at_136) rfl (l' := #[(.val (.int x0)), (.val (.ref b1)), (.val (.int (1 : Int32))), (.val (.int (1 : Int32)))]) rfl kont) ?_
    refine own_st (T' := T35) (f' := (mkF m 138 #[(.val (.int x0)), (.val (.ref b1)), (.val (.int (1 : Int32))), (.val (.int (1 : Int32)))] [(.ref b1)])) (fun _ kont => XS.aloadN X35.here hx rfl (hb hby at_137) rfl rfl kont) ?_
    refine own_st (T' := T35) (f' := (mkF m 139 #[(.val (.int x0)), (.val (.ref b1)), (.val (.int (1 : Int32))), (.val (.int (1 : Int32)))] [(.int (1 : Int32)), (.ref b1)])) (fun _ kont => XS.iloadN X35.here hx rfl (hb hby at_138) rfl kont) ?_
    obtain ⟨cl38, Ar38, q38, S38, N38, H38, G38⟩ := V35
    have hin38 : ¬ ((1 : Int32) < 0 ∨ cl38.slots.size ≤ ((1 : Int32)).toNatClampNeg) := inb_of S38 ⟨by decide, by decide⟩
    refine own_st (T' := T35) (f' := (mkF m 140 #[(.val (.int x0)), (.val (.ref b1)), (.val (.int (1 : Int32))), (.val (.int (1 : Int32)))] [(.ref s_Measure_NUM_RET)])) (fun _ kont => X35.aaload hx (j := (1 : Int32)) (v := (.ref s_Measure_NUM_RET)) (by rw [e35]; exact Ar38.1) (State.isArrayOf_alike hZ.alike Ar38.2.1) rfl Ar38.2.2 hin38 (Has.at H38 hin38 rfl) (g := (mkF m 139 #[(.val (.int x0)), (.val (.ref b1)), (.val (.int (1 : Int32))), (.val (.int (1 : Int32)))] [(.int (1 : Int32)), (.ref b1)])) rfl rfl (hb hby at_139) _ kont) ?_
    obtain ⟨v39, T39, L39, hQ39, X39, st39⟩ := own_callV X35 hx hZ e35 hown (hw _ (List.mem_of_getElem? (i := 39) rfl)) (hw _ (List.mem_of_getElem? (i := 40) rfl)) (hw _ (List.mem_of_getElem? (i := 42) rfl)) (hw _ (List.mem_of_getElem? (i := 41) rfl)) (by decide) (b := s_Measure_NUM_RET) (E_Measure_NUM_RET.ext EX35) (hw _ (List.mem_of_getElem? (i := 43) rfl)) (hw _ (List.mem_of_getElem? (i := 3) rfl)) (own_k1_2 l Z a0 hw s_Measure_NUM_RET s_Kind_COUNT s_Kind_TOPICS h35 (F_Measure_NUM_RET_kind.ext EX35) (S_Kind_TOPICS.ext EX35)) (g := (mkF m 140 #[(.val (.int x0)), (.val (.ref b1)), (.val (.int (1 : Int32))), (.val (.int (1 : Int32)))] [(.ref s_Measure_NUM_RET)])) rfl (by rw [hml]; rfl) rfl (argsL := []) (rest := []) rfl (lenOf own_pd0 rfl) rfl (hb hby at_140) (Nat.le_of_ble_eq_true rfl) (Nat.le_of_ble_eq_true rfl) (Nat.le_of_ble_eq_true rfl) (Nat.le_of_ble_eq_true rfl)
    obtain ⟨rfl, rfl, e39⟩ := hQ39
    rw [List.append_nil] at X39
    rw [if_neg neCT] at st39
    refine own_st (T' := T39) (f' := (mkF m 143 #[(.val (.int x0)), (.val (.ref b1)), (.val (.int (1 : Int32))), (.val (.int (1 : Int32)))] [(.int (1 : Int32))])) st39 ?_
    refine own_st (T' := T39) (f' := (mkF m 144 #[(.val (.int x0)), (.val (.ref b1)), (.val (.int (1 : Int32))), (.val (.int (1 : Int32)))] [(.int (1 : Int32)), (.int (1 : Int32))])) (fun _ kont => XS.iloadN X39.here hx rfl (hb hby at_143) rfl kont) ?_
    refine own_st (T' := T39) (f' := (mkF m 147 #[(.val (.int x0)), (.val (.ref b1)), (.val (.int (1 : Int32))), (.val (.int (1 : Int32)))] [])) (fun _ kont => XS.icmpNo X39.here hx rfl (hb hby at_144) rfl (teq (by decide : (1 : Int32) = (1 : Int32))).2 kont) ?_
    refine own_st (T' := T39) (f' := (mkF m 148 #[(.val (.int x0)), (.val (.ref b1)), (.val (.int (1 : Int32))), (.val (.int (1 : Int32)))] [(.int (1 : Int32))])) (fun _ kont => XS.iconst X39.here hx rfl (hb hby at_147) kont) ?_
    refine own_st (T' := T39) (f' := (mkF m 152 #[(.val (.int x0)), (.val (.ref b1)), (.val (.int (1 : Int32))), (.val (.int (1 : Int32)))] [(.int (1 : Int32))])) (fun _ kont => XS.goto X39.here hx rfl (pc0 := 148) (pc' := 152) rfl (hb hby at_148) (by decide) (by decide) kont) ?_
    exact own_retN X39 hx hlk (t := .boolean) hret (by simp) (hb hby at_152) ⟨rfl, N_35⟩ (by decide) (by decide)
  · skip  -- i = 2
    refine own_st (T' := T35) (f' := (mkF m 127 #[(.val (.int x0)), (.val (.ref b1)), (.val (.int (2 : Int32))), .unset] [])) (fun _ kont => XS.istoreN X35.here hx rfl (hb hby at_126) rfl (l' := #[(.val (.int x0)), (.val (.ref b1)), (.val (.int (2 : Int32))), .unset]) rfl kont) ?_
    refine own_st (T' := T35) (f' := (mkF m 128 #[(.val (.int x0)), (.val (.ref b1)), (.val (.int (2 : Int32))), .unset] [(.int (2 : Int32))])) (fun _ kont => XS.iloadN X35.here hx rfl (hb hby at_127) rfl kont) ?_
    refine own_st (T' := T35) (f' := (mkF m 131 #[(.val (.int x0)), (.val (.ref b1)), (.val (.int (2 : Int32))), .unset] [])) (fun _ kont => XS.ifNo X35.here hx rfl (hb hby at_128) rfl ((if0 _ _).trans (feq (by decide : ¬ ((2 : Int32) = (0 : Int32)))).1) kont) ?_
    refine own_st (T' := T35) (f' := (mkF m 132 #[(.val (.int x0)), (.val (.ref b1)), (.val (.int (2 : Int32))), .unset] [(.int (1 : Int32))])) (fun _ kont => XS.iconst X35.here hx rfl (hb hby at_131) kont) ?_
    refine own_st (T' := T35) (f' := (mkF m 136 #[(.val (.int x0)), (.val (.ref b1)), (.val (.int (2 : Int32))), .unset] [(.int (1 : Int32))])) (fun _ kont => XS.goto X35.here hx rfl (pc0 := 132) (pc' := 136) rfl (hb hby at_132) (by decide) (by decide) kont) ?_
    refine own_st (T' := T35) (f' := (mkF m 137 #[(.val (.int x0)), (.val (.ref b1)), (.val (.int (2 : Int32))), (.val (.int (1 : Int32)))] [])) (fun _ kont => XS.istoreN X35.here hx rfl (hb hby at_136) rfl (l' := #[(.val (.int x0)), (.val (.ref b1)), (.val (.int (2 : Int32))), (.val (.int (1 : Int32)))]) rfl kont) ?_
    refine own_st (T' := T35) (f' := (mkF m 138 #[(.val (.int x0)), (.val (.ref b1)), (.val (.int (2 : Int32))), (.val (.int (1 : Int32)))] [(.ref b1)])) (fun _ kont => XS.aloadN X35.here hx rfl (hb hby at_137) rfl rfl kont) ?_
    refine own_st (T' := T35) (f' := (mkF m 139 #[(.val (.int x0)), (.val (.ref b1)), (.val (.int (2 : Int32))), (.val (.int (1 : Int32)))] [(.int (2 : Int32)), (.ref b1)])) (fun _ kont => XS.iloadN X35.here hx rfl (hb hby at_138) rfl kont) ?_
    obtain ⟨cl40, Ar40, q40, S40, N40, H40, G40⟩ := V35
    have hin40 : ¬ ((2 : Int32) < 0 ∨ cl40.slots.size ≤ ((2 : Int32)).toNatClampNeg) := inb_of S40 ⟨by decide, by decide⟩
    refine own_st (T' := T35) (f' := (mkF m 140 #[(.val (.int x0)), (.val (.ref b1)), (.val (.int (2 : Int32))), (.val (.int (1 : Int32)))] [(.ref s_Measure_NUM_REL)])) (fun _ kont => X35.aaload hx (j := (2 : Int32)) (v := (.ref s_Measure_NUM_REL)) (by rw [e35]; exact Ar40.1) (State.isArrayOf_alike hZ.alike Ar40.2.1) rfl Ar40.2.2 hin40 (Has.at H40 hin40 rfl) (g := (mkF m 139 #[(.val (.int x0)), (.val (.ref b1)), (.val (.int (2 : Int32))), (.val (.int (1 : Int32)))] [(.int (2 : Int32)), (.ref b1)])) rfl rfl (hb hby at_139) _ kont) ?_
    obtain ⟨v41, T41, L41, hQ41, X41, st41⟩ := own_callV X35 hx hZ e35 hown (hw _ (List.mem_of_getElem? (i := 39) rfl)) (hw _ (List.mem_of_getElem? (i := 40) rfl)) (hw _ (List.mem_of_getElem? (i := 42) rfl)) (hw _ (List.mem_of_getElem? (i := 41) rfl)) (by decide) (b := s_Measure_NUM_REL) (E_Measure_NUM_REL.ext EX35) (hw _ (List.mem_of_getElem? (i := 43) rfl)) (hw _ (List.mem_of_getElem? (i := 3) rfl)) (own_k1_2 l Z a0 hw s_Measure_NUM_REL s_Kind_COUNT s_Kind_TOPICS h35 (F_Measure_NUM_REL_kind.ext EX35) (S_Kind_TOPICS.ext EX35)) (g := (mkF m 140 #[(.val (.int x0)), (.val (.ref b1)), (.val (.int (2 : Int32))), (.val (.int (1 : Int32)))] [(.ref s_Measure_NUM_REL)])) rfl (by rw [hml]; rfl) rfl (argsL := []) (rest := []) rfl (lenOf own_pd0 rfl) rfl (hb hby at_140) (Nat.le_of_ble_eq_true rfl) (Nat.le_of_ble_eq_true rfl) (Nat.le_of_ble_eq_true rfl) (Nat.le_of_ble_eq_true rfl)
    obtain ⟨rfl, rfl, e41⟩ := hQ41
    rw [List.append_nil] at X41
    rw [if_neg neCT] at st41
    refine own_st (T' := T41) (f' := (mkF m 143 #[(.val (.int x0)), (.val (.ref b1)), (.val (.int (2 : Int32))), (.val (.int (1 : Int32)))] [(.int (1 : Int32))])) st41 ?_
    refine own_st (T' := T41) (f' := (mkF m 144 #[(.val (.int x0)), (.val (.ref b1)), (.val (.int (2 : Int32))), (.val (.int (1 : Int32)))] [(.int (1 : Int32)), (.int (1 : Int32))])) (fun _ kont => XS.iloadN X41.here hx rfl (hb hby at_143) rfl kont) ?_
    refine own_st (T' := T41) (f' := (mkF m 147 #[(.val (.int x0)), (.val (.ref b1)), (.val (.int (2 : Int32))), (.val (.int (1 : Int32)))] [])) (fun _ kont => XS.icmpNo X41.here hx rfl (hb hby at_144) rfl (teq (by decide : (1 : Int32) = (1 : Int32))).2 kont) ?_
    refine own_st (T' := T41) (f' := (mkF m 148 #[(.val (.int x0)), (.val (.ref b1)), (.val (.int (2 : Int32))), (.val (.int (1 : Int32)))] [(.int (1 : Int32))])) (fun _ kont => XS.iconst X41.here hx rfl (hb hby at_147) kont) ?_
    refine own_st (T' := T41) (f' := (mkF m 152 #[(.val (.int x0)), (.val (.ref b1)), (.val (.int (2 : Int32))), (.val (.int (1 : Int32)))] [(.int (1 : Int32))])) (fun _ kont => XS.goto X41.here hx rfl (pc0 := 148) (pc' := 152) rfl (hb hby at_148) (by decide) (by decide) kont) ?_
    exact own_retN X41 hx hlk (t := .boolean) hret (by simp) (hb hby at_152) ⟨rfl, N_35⟩ (by decide) (by decide)
  · skip  -- i = 3
    refine own_st (T' := T35) (f' := (mkF m 127 #[(.val (.int x0)), (.val (.ref b1)), (.val (.int (3 : Int32))), .unset] [])) (fun _ kont => XS.istoreN X35.here hx rfl (hb hby at_126) rfl (l' := #[(.val (.int x0)), (.val (.ref b1)), (.val (.int (3 : Int32))), .unset]) rfl kont) ?_
    refine own_st (T' := T35) (f' := (mkF m 128 #[(.val (.int x0)), (.val (.ref b1)), (.val (.int (3 : Int32))), .unset] [(.int (3 : Int32))])) (fun _ kont => XS.iloadN X35.here hx rfl (hb hby at_127) rfl kont) ?_
    refine own_st (T' := T35) (f' := (mkF m 131 #[(.val (.int x0)), (.val (.ref b1)), (.val (.int (3 : Int32))), .unset] [])) (fun _ kont => XS.ifNo X35.here hx rfl (hb hby at_128) rfl ((if0 _ _).trans (feq (by decide : ¬ ((3 : Int32) = (0 : Int32)))).1) kont) ?_
    refine own_st (T' := T35) (f' := (mkF m 132 #[(.val (.int x0)), (.val (.ref b1)), (.val (.int (3 : Int32))), .unset] [(.int (1 : Int32))])) (fun _ kont => XS.iconst X35.here hx rfl (hb hby at_131) kont) ?_
    refine own_st (T' := T35) (f' := (mkF m 136 #[(.val (.int x0)), (.val (.ref b1)), (.val (.int (3 : Int32))), .unset] [(.int (1 : Int32))])) (fun _ kont => XS.goto X35.here hx rfl (pc0 := 132) (pc' := 136) rfl (hb hby at_132) (by decide) (by decide) kont) ?_
    refine own_st (T' := T35) (f' := (mkF m 137 #[(.val (.int x0)), (.val (.ref b1)), (.val (.int (3 : Int32))), (.val (.int (1 : Int32)))] [])) (fun _ kont => XS.istoreN X35.here hx rfl (hb hby at_136) rfl (l' := #[(.val (.int x0)), (.val (.ref b1)), (.val (.int (3 : Int32))), (.val (.int (1 : Int32)))]) rfl kont) ?_
    refine own_st (T' := T35) (f' := (mkF m 138 #[(.val (.int x0)), (.val (.ref b1)), (.val (.int (3 : Int32))), (.val (.int (1 : Int32)))] [(.ref b1)])) (fun _ kont => XS.aloadN X35.here hx rfl (hb hby at_137) rfl rfl kont) ?_
    refine own_st (T' := T35) (f' := (mkF m 139 #[(.val (.int x0)), (.val (.ref b1)), (.val (.int (3 : Int32))), (.val (.int (1 : Int32)))] [(.int (3 : Int32)), (.ref b1)])) (fun _ kont => XS.iloadN X35.here hx rfl (hb hby at_138) rfl kont) ?_
    obtain ⟨cl42, Ar42, q42, S42, N42, H42, G42⟩ := V35
    have hin42 : ¬ ((3 : Int32) < 0 ∨ cl42.slots.size ≤ ((3 : Int32)).toNatClampNeg) := inb_of S42 ⟨by decide, by decide⟩
    refine own_st (T' := T35) (f' := (mkF m 140 #[(.val (.int x0)), (.val (.ref b1)), (.val (.int (3 : Int32))), (.val (.int (1 : Int32)))] [(.ref s_Measure_NUM_REL_RET)])) (fun _ kont => X35.aaload hx (j := (3 : Int32)) (v := (.ref s_Measure_NUM_REL_RET)) (by rw [e35]; exact Ar42.1) (State.isArrayOf_alike hZ.alike Ar42.2.1) rfl Ar42.2.2 hin42 (Has.at H42 hin42 rfl) (g := (mkF m 139 #[(.val (.int x0)), (.val (.ref b1)), (.val (.int (3 : Int32))), (.val (.int (1 : Int32)))] [(.int (3 : Int32)), (.ref b1)])) rfl rfl (hb hby at_139) _ kont) ?_
    obtain ⟨v43, T43, L43, hQ43, X43, st43⟩ := own_callV X35 hx hZ e35 hown (hw _ (List.mem_of_getElem? (i := 39) rfl)) (hw _ (List.mem_of_getElem? (i := 40) rfl)) (hw _ (List.mem_of_getElem? (i := 42) rfl)) (hw _ (List.mem_of_getElem? (i := 41) rfl)) (by decide) (b := s_Measure_NUM_REL_RET) (E_Measure_NUM_REL_RET.ext EX35) (hw _ (List.mem_of_getElem? (i := 43) rfl)) (hw _ (List.mem_of_getElem? (i := 3) rfl)) (own_k1_2 l Z a0 hw s_Measure_NUM_REL_RET s_Kind_COUNT s_Kind_TOPICS h35 (F_Measure_NUM_REL_RET_kind.ext EX35) (S_Kind_TOPICS.ext EX35)) (g := (mkF m 140 #[(.val (.int x0)), (.val (.ref b1)), (.val (.int (3 : Int32))), (.val (.int (1 : Int32)))] [(.ref s_Measure_NUM_REL_RET)])) rfl (by rw [hml]; rfl) rfl (argsL := []) (rest := []) rfl (lenOf own_pd0 rfl) rfl (hb hby at_140) (Nat.le_of_ble_eq_true rfl) (Nat.le_of_ble_eq_true rfl) (Nat.le_of_ble_eq_true rfl) (Nat.le_of_ble_eq_true rfl)
    obtain ⟨rfl, rfl, e43⟩ := hQ43
    rw [List.append_nil] at X43
    rw [if_neg neCT] at st43
    refine own_st (T' := T43) (f' := (mkF m 143 #[(.val (.int x0)), (.val (.ref b1)), (.val (.int (3 : Int32))), (.val (.int (1 : Int32)))] [(.int (1 : Int32))])) st43 ?_
    refine own_st (T' := T43) (f' := (mkF m 144 #[(.val (.int x0)), (.val (.ref b1)), (.val (.int (3 : Int32))), (.val (.int (1 : Int32)))] [(.int (1 : Int32)), (.int (1 : Int32))])) (fun _ kont => XS.iloadN X43.here hx rfl (hb hby at_143) rfl kont) ?_
    refine own_st (T' := T43) (f' := (mkF m 147 #[(.val (.int x0)), (.val (.ref b1)), (.val (.int (3 : Int32))), (.val (.int (1 : Int32)))] [])) (fun _ kont => XS.icmpNo X43.here hx rfl (hb hby at_144) rfl (teq (by decide : (1 : Int32) = (1 : Int32))).2 kont) ?_
    refine own_st (T' := T43) (f' := (mkF m 148 #[(.val (.int x0)), (.val (.ref b1)), (.val (.int (3 : Int32))), (.val (.int (1 : Int32)))] [(.int (1 : Int32))])) (fun _ kont => XS.iconst X43.here hx rfl (hb hby at_147) kont) ?_
    refine own_st (T' := T43) (f' := (mkF m 152 #[(.val (.int x0)), (.val (.ref b1)), (.val (.int (3 : Int32))), (.val (.int (1 : Int32)))] [(.int (1 : Int32))])) (fun _ kont => XS.goto X43.here hx rfl (pc0 := 148) (pc' := 152) rfl (hb hby at_148) (by decide) (by decide) kont) ?_
    exact own_retN X43 hx hlk (t := .boolean) hret (by simp) (hb hby at_152) ⟨rfl, N_35⟩ (by decide) (by decide)
  · skip  -- i = 4
    refine own_st (T' := T35) (f' := (mkF m 127 #[(.val (.int x0)), (.val (.ref b1)), (.val (.int (4 : Int32))), .unset] [])) (fun _ kont => XS.istoreN X35.here hx rfl (hb hby at_126) rfl (l' := #[(.val (.int x0)), (.val (.ref b1)), (.val (.int (4 : Int32))), .unset]) rfl kont) ?_
    refine own_st (T' := T35) (f' := (mkF m 128 #[(.val (.int x0)), (.val (.ref b1)), (.val (.int (4 : Int32))), .unset] [(.int (4 : Int32))])) (fun _ kont => XS.iloadN X35.here hx rfl (hb hby at_127) rfl kont) ?_
    refine own_st (T' := T35) (f' := (mkF m 131 #[(.val (.int x0)), (.val (.ref b1)), (.val (.int (4 : Int32))), .unset] [])) (fun _ kont => XS.ifNo X35.here hx rfl (hb hby at_128) rfl ((if0 _ _).trans (feq (by decide : ¬ ((4 : Int32) = (0 : Int32)))).1) kont) ?_
    refine own_st (T' := T35) (f' := (mkF m 132 #[(.val (.int x0)), (.val (.ref b1)), (.val (.int (4 : Int32))), .unset] [(.int (1 : Int32))])) (fun _ kont => XS.iconst X35.here hx rfl (hb hby at_131) kont) ?_
    refine own_st (T' := T35) (f' := (mkF m 136 #[(.val (.int x0)), (.val (.ref b1)), (.val (.int (4 : Int32))), .unset] [(.int (1 : Int32))])) (fun _ kont => XS.goto X35.here hx rfl (pc0 := 132) (pc' := 136) rfl (hb hby at_132) (by decide) (by decide) kont) ?_
    refine own_st (T' := T35) (f' := (mkF m 137 #[(.val (.int x0)), (.val (.ref b1)), (.val (.int (4 : Int32))), (.val (.int (1 : Int32)))] [])) (fun _ kont => XS.istoreN X35.here hx rfl (hb hby at_136) rfl (l' := #[(.val (.int x0)), (.val (.ref b1)), (.val (.int (4 : Int32))), (.val (.int (1 : Int32)))]) rfl kont) ?_
    refine own_st (T' := T35) (f' := (mkF m 138 #[(.val (.int x0)), (.val (.ref b1)), (.val (.int (4 : Int32))), (.val (.int (1 : Int32)))] [(.ref b1)])) (fun _ kont => XS.aloadN X35.here hx rfl (hb hby at_137) rfl rfl kont) ?_
    refine own_st (T' := T35) (f' := (mkF m 139 #[(.val (.int x0)), (.val (.ref b1)), (.val (.int (4 : Int32))), (.val (.int (1 : Int32)))] [(.int (4 : Int32)), (.ref b1)])) (fun _ kont => XS.iloadN X35.here hx rfl (hb hby at_138) rfl kont) ?_
    obtain ⟨cl44, Ar44, q44, S44, N44, H44, G44⟩ := V35
    have hin44 : ¬ ((4 : Int32) < 0 ∨ cl44.slots.size ≤ ((4 : Int32)).toNatClampNeg) := inb_of S44 ⟨by decide, by decide⟩
    refine own_st (T' := T35) (f' := (mkF m 140 #[(.val (.int x0)), (.val (.ref b1)), (.val (.int (4 : Int32))), (.val (.int (1 : Int32)))] [(.ref s_Measure_MAP)])) (fun _ kont => X35.aaload hx (j := (4 : Int32)) (v := (.ref s_Measure_MAP)) (by rw [e35]; exact Ar44.1) (State.isArrayOf_alike hZ.alike Ar44.2.1) rfl Ar44.2.2 hin44 (Has.at H44 hin44 rfl) (g := (mkF m 139 #[(.val (.int x0)), (.val (.ref b1)), (.val (.int (4 : Int32))), (.val (.int (1 : Int32)))] [(.int (4 : Int32)), (.ref b1)])) rfl rfl (hb hby at_139) _ kont) ?_
    obtain ⟨v45, T45, L45, hQ45, X45, st45⟩ := own_callV X35 hx hZ e35 hown (hw _ (List.mem_of_getElem? (i := 39) rfl)) (hw _ (List.mem_of_getElem? (i := 40) rfl)) (hw _ (List.mem_of_getElem? (i := 42) rfl)) (hw _ (List.mem_of_getElem? (i := 41) rfl)) (by decide) (b := s_Measure_MAP) (E_Measure_MAP.ext EX35) (hw _ (List.mem_of_getElem? (i := 43) rfl)) (hw _ (List.mem_of_getElem? (i := 3) rfl)) (own_k1_2 l Z a0 hw s_Measure_MAP s_Kind_MEAN s_Kind_TOPICS h35 (F_Measure_MAP_kind.ext EX35) (S_Kind_TOPICS.ext EX35)) (g := (mkF m 140 #[(.val (.int x0)), (.val (.ref b1)), (.val (.int (4 : Int32))), (.val (.int (1 : Int32)))] [(.ref s_Measure_MAP)])) rfl (by rw [hml]; rfl) rfl (argsL := []) (rest := []) rfl (lenOf own_pd0 rfl) rfl (hb hby at_140) (Nat.le_of_ble_eq_true rfl) (Nat.le_of_ble_eq_true rfl) (Nat.le_of_ble_eq_true rfl) (Nat.le_of_ble_eq_true rfl)
    obtain ⟨rfl, rfl, e45⟩ := hQ45
    rw [List.append_nil] at X45
    rw [if_neg neMT] at st45
    refine own_st (T' := T45) (f' := (mkF m 143 #[(.val (.int x0)), (.val (.ref b1)), (.val (.int (4 : Int32))), (.val (.int (1 : Int32)))] [(.int (1 : Int32))])) st45 ?_
    refine own_st (T' := T45) (f' := (mkF m 144 #[(.val (.int x0)), (.val (.ref b1)), (.val (.int (4 : Int32))), (.val (.int (1 : Int32)))] [(.int (1 : Int32)), (.int (1 : Int32))])) (fun _ kont => XS.iloadN X45.here hx rfl (hb hby at_143) rfl kont) ?_
    refine own_st (T' := T45) (f' := (mkF m 147 #[(.val (.int x0)), (.val (.ref b1)), (.val (.int (4 : Int32))), (.val (.int (1 : Int32)))] [])) (fun _ kont => XS.icmpNo X45.here hx rfl (hb hby at_144) rfl (teq (by decide : (1 : Int32) = (1 : Int32))).2 kont) ?_
    refine own_st (T' := T45) (f' := (mkF m 148 #[(.val (.int x0)), (.val (.ref b1)), (.val (.int (4 : Int32))), (.val (.int (1 : Int32)))] [(.int (1 : Int32))])) (fun _ kont => XS.iconst X45.here hx rfl (hb hby at_147) kont) ?_
    refine own_st (T' := T45) (f' := (mkF m 152 #[(.val (.int x0)), (.val (.ref b1)), (.val (.int (4 : Int32))), (.val (.int (1 : Int32)))] [(.int (1 : Int32))])) (fun _ kont => XS.goto X45.here hx rfl (pc0 := 148) (pc' := 152) rfl (hb hby at_148) (by decide) (by decide) kont) ?_
    exact own_retN X45 hx hlk (t := .boolean) hret (by simp) (hb hby at_152) ⟨rfl, N_35⟩ (by decide) (by decide)
  · skip  -- i = 5
    refine own_st (T' := T35) (f' := (mkF m 127 #[(.val (.int x0)), (.val (.ref b1)), (.val (.int (5 : Int32))), .unset] [])) (fun _ kont => XS.istoreN X35.here hx rfl (hb hby at_126) rfl (l' := #[(.val (.int x0)), (.val (.ref b1)), (.val (.int (5 : Int32))), .unset]) rfl kont) ?_
    refine own_st (T' := T35) (f' := (mkF m 128 #[(.val (.int x0)), (.val (.ref b1)), (.val (.int (5 : Int32))), .unset] [(.int (5 : Int32))])) (fun _ kont => XS.iloadN X35.here hx rfl (hb hby at_127) rfl kont) ?_
    refine own_st (T' := T35) (f' := (mkF m 131 #[(.val (.int x0)), (.val (.ref b1)), (.val (.int (5 : Int32))), .unset] [])) (fun _ kont => XS.ifNo X35.here hx rfl (hb hby at_128) rfl ((if0 _ _).trans (feq (by decide : ¬ ((5 : Int32) = (0 : Int32)))).1) kont) ?_
    refine own_st (T' := T35) (f' := (mkF m 132 #[(.val (.int x0)), (.val (.ref b1)), (.val (.int (5 : Int32))), .unset] [(.int (1 : Int32))])) (fun _ kont => XS.iconst X35.here hx rfl (hb hby at_131) kont) ?_
    refine own_st (T' := T35) (f' := (mkF m 136 #[(.val (.int x0)), (.val (.ref b1)), (.val (.int (5 : Int32))), .unset] [(.int (1 : Int32))])) (fun _ kont => XS.goto X35.here hx rfl (pc0 := 132) (pc' := 136) rfl (hb hby at_132) (by decide) (by decide) kont) ?_
    refine own_st (T' := T35) (f' := (mkF m 137 #[(.val (.int x0)), (.val (.ref b1)), (.val (.int (5 : Int32))), (.val (.int (1 : Int32)))] [])) (fun _ kont => XS.istoreN X35.here hx rfl (hb hby at_136) rfl (l' := #[(.val (.int x0)), (.val (.ref b1)), (.val (.int (5 : Int32))), (.val (.int (1 : Int32)))]) rfl kont) ?_
    refine own_st (T' := T35) (f' := (mkF m 138 #[(.val (.int x0)), (.val (.ref b1)), (.val (.int (5 : Int32))), (.val (.int (1 : Int32)))] [(.ref b1)])) (fun _ kont => XS.aloadN X35.here hx rfl (hb hby at_137) rfl rfl kont) ?_
    refine own_st (T' := T35) (f' := (mkF m 139 #[(.val (.int x0)), (.val (.ref b1)), (.val (.int (5 : Int32))), (.val (.int (1 : Int32)))] [(.int (5 : Int32)), (.ref b1)])) (fun _ kont => XS.iloadN X35.here hx rfl (hb hby at_138) rfl kont) ?_
    obtain ⟨cl46, Ar46, q46, S46, N46, H46, G46⟩ := V35
    have hin46 : ¬ ((5 : Int32) < 0 ∨ cl46.slots.size ≤ ((5 : Int32)).toNatClampNeg) := inb_of S46 ⟨by decide, by decide⟩
    refine own_st (T' := T35) (f' := (mkF m 140 #[(.val (.int x0)), (.val (.ref b1)), (.val (.int (5 : Int32))), (.val (.int (1 : Int32)))] [(.ref s_Measure_RECIP_RANK)])) (fun _ kont => X35.aaload hx (j := (5 : Int32)) (v := (.ref s_Measure_RECIP_RANK)) (by rw [e35]; exact Ar46.1) (State.isArrayOf_alike hZ.alike Ar46.2.1) rfl Ar46.2.2 hin46 (Has.at H46 hin46 rfl) (g := (mkF m 139 #[(.val (.int x0)), (.val (.ref b1)), (.val (.int (5 : Int32))), (.val (.int (1 : Int32)))] [(.int (5 : Int32)), (.ref b1)])) rfl rfl (hb hby at_139) _ kont) ?_
    obtain ⟨v47, T47, L47, hQ47, X47, st47⟩ := own_callV X35 hx hZ e35 hown (hw _ (List.mem_of_getElem? (i := 39) rfl)) (hw _ (List.mem_of_getElem? (i := 40) rfl)) (hw _ (List.mem_of_getElem? (i := 42) rfl)) (hw _ (List.mem_of_getElem? (i := 41) rfl)) (by decide) (b := s_Measure_RECIP_RANK) (E_Measure_RECIP_RANK.ext EX35) (hw _ (List.mem_of_getElem? (i := 43) rfl)) (hw _ (List.mem_of_getElem? (i := 3) rfl)) (own_k1_2 l Z a0 hw s_Measure_RECIP_RANK s_Kind_MEAN s_Kind_TOPICS h35 (F_Measure_RECIP_RANK_kind.ext EX35) (S_Kind_TOPICS.ext EX35)) (g := (mkF m 140 #[(.val (.int x0)), (.val (.ref b1)), (.val (.int (5 : Int32))), (.val (.int (1 : Int32)))] [(.ref s_Measure_RECIP_RANK)])) rfl (by rw [hml]; rfl) rfl (argsL := []) (rest := []) rfl (lenOf own_pd0 rfl) rfl (hb hby at_140) (Nat.le_of_ble_eq_true rfl) (Nat.le_of_ble_eq_true rfl) (Nat.le_of_ble_eq_true rfl) (Nat.le_of_ble_eq_true rfl)
    obtain ⟨rfl, rfl, e47⟩ := hQ47
    rw [List.append_nil] at X47
    rw [if_neg neMT] at st47
    refine own_st (T' := T47) (f' := (mkF m 143 #[(.val (.int x0)), (.val (.ref b1)), (.val (.int (5 : Int32))), (.val (.int (1 : Int32)))] [(.int (1 : Int32))])) st47 ?_
    refine own_st (T' := T47) (f' := (mkF m 144 #[(.val (.int x0)), (.val (.ref b1)), (.val (.int (5 : Int32))), (.val (.int (1 : Int32)))] [(.int (1 : Int32)), (.int (1 : Int32))])) (fun _ kont => XS.iloadN X47.here hx rfl (hb hby at_143) rfl kont) ?_
    refine own_st (T' := T47) (f' := (mkF m 147 #[(.val (.int x0)), (.val (.ref b1)), (.val (.int (5 : Int32))), (.val (.int (1 : Int32)))] [])) (fun _ kont => XS.icmpNo X47.here hx rfl (hb hby at_144) rfl (teq (by decide : (1 : Int32) = (1 : Int32))).2 kont) ?_
    refine own_st (T' := T47) (f' := (mkF m 148 #[(.val (.int x0)), (.val (.ref b1)), (.val (.int (5 : Int32))), (.val (.int (1 : Int32)))] [(.int (1 : Int32))])) (fun _ kont => XS.iconst X47.here hx rfl (hb hby at_147) kont) ?_
    refine own_st (T' := T47) (f' := (mkF m 152 #[(.val (.int x0)), (.val (.ref b1)), (.val (.int (5 : Int32))), (.val (.int (1 : Int32)))] [(.int (1 : Int32))])) (fun _ kont => XS.goto X47.here hx rfl (pc0 := 148) (pc' := 152) rfl (hb hby at_148) (by decide) (by decide) kont) ?_
    exact own_retN X47 hx hlk (t := .boolean) hret (by simp) (hb hby at_152) ⟨rfl, N_35⟩ (by decide) (by decide)
  · skip  -- i = 6
    refine own_st (T' := T35) (f' := (mkF m 127 #[(.val (.int x0)), (.val (.ref b1)), (.val (.int (6 : Int32))), .unset] [])) (fun _ kont => XS.istoreN X35.here hx rfl (hb hby at_126) rfl (l' := #[(.val (.int x0)), (.val (.ref b1)), (.val (.int (6 : Int32))), .unset]) rfl kont) ?_
    refine own_st (T' := T35) (f' := (mkF m 128 #[(.val (.int x0)), (.val (.ref b1)), (.val (.int (6 : Int32))), .unset] [(.int (6 : Int32))])) (fun _ kont => XS.iloadN X35.here hx rfl (hb hby at_127) rfl kont) ?_
    refine own_st (T' := T35) (f' := (mkF m 131 #[(.val (.int x0)), (.val (.ref b1)), (.val (.int (6 : Int32))), .unset] [])) (fun _ kont => XS.ifNo X35.here hx rfl (hb hby at_128) rfl ((if0 _ _).trans (feq (by decide : ¬ ((6 : Int32) = (0 : Int32)))).1) kont) ?_
    refine own_st (T' := T35) (f' := (mkF m 132 #[(.val (.int x0)), (.val (.ref b1)), (.val (.int (6 : Int32))), .unset] [(.int (1 : Int32))])) (fun _ kont => XS.iconst X35.here hx rfl (hb hby at_131) kont) ?_
    refine own_st (T' := T35) (f' := (mkF m 136 #[(.val (.int x0)), (.val (.ref b1)), (.val (.int (6 : Int32))), .unset] [(.int (1 : Int32))])) (fun _ kont => XS.goto X35.here hx rfl (pc0 := 132) (pc' := 136) rfl (hb hby at_132) (by decide) (by decide) kont) ?_
    refine own_st (T' := T35) (f' := (mkF m 137 #[(.val (.int x0)), (.val (.ref b1)), (.val (.int (6 : Int32))), (.val (.int (1 : Int32)))] [])) (fun _ kont => XS.istoreN X35.here hx rfl (hb hby at_136) rfl (l' := #[(.val (.int x0)), (.val (.ref b1)), (.val (.int (6 : Int32))), (.val (.int (1 : Int32)))]) rfl kont) ?_
    refine own_st (T' := T35) (f' := (mkF m 138 #[(.val (.int x0)), (.val (.ref b1)), (.val (.int (6 : Int32))), (.val (.int (1 : Int32)))] [(.ref b1)])) (fun _ kont => XS.aloadN X35.here hx rfl (hb hby at_137) rfl rfl kont) ?_
    refine own_st (T' := T35) (f' := (mkF m 139 #[(.val (.int x0)), (.val (.ref b1)), (.val (.int (6 : Int32))), (.val (.int (1 : Int32)))] [(.int (6 : Int32)), (.ref b1)])) (fun _ kont => XS.iloadN X35.here hx rfl (hb hby at_138) rfl kont) ?_
    obtain ⟨cl48, Ar48, q48, S48, N48, H48, G48⟩ := V35
    have hin48 : ¬ ((6 : Int32) < 0 ∨ cl48.slots.size ≤ ((6 : Int32)).toNatClampNeg) := inb_of S48 ⟨by decide, by decide⟩
    refine own_st (T' := T35) (f' := (mkF m 140 #[(.val (.int x0)), (.val (.ref b1)), (.val (.int (6 : Int32))), (.val (.int (1 : Int32)))] [(.ref s_Measure_BPREF)])) (fun _ kont => X35.aaload hx (j := (6 : Int32)) (v := (.ref s_Measure_BPREF)) (by rw [e35]; exact Ar48.1) (State.isArrayOf_alike hZ.alike Ar48.2.1) rfl Ar48.2.2 hin48 (Has.at H48 hin48 rfl) (g := (mkF m 139 #[(.val (.int x0)), (.val (.ref b1)), (.val (.int (6 : Int32))), (.val (.int (1 : Int32)))] [(.int (6 : Int32)), (.ref b1)])) rfl rfl (hb hby at_139) _ kont) ?_
    obtain ⟨v49, T49, L49, hQ49, X49, st49⟩ := own_callV X35 hx hZ e35 hown (hw _ (List.mem_of_getElem? (i := 39) rfl)) (hw _ (List.mem_of_getElem? (i := 40) rfl)) (hw _ (List.mem_of_getElem? (i := 42) rfl)) (hw _ (List.mem_of_getElem? (i := 41) rfl)) (by decide) (b := s_Measure_BPREF) (E_Measure_BPREF.ext EX35) (hw _ (List.mem_of_getElem? (i := 43) rfl)) (hw _ (List.mem_of_getElem? (i := 3) rfl)) (own_k1_2 l Z a0 hw s_Measure_BPREF s_Kind_MEAN s_Kind_TOPICS h35 (F_Measure_BPREF_kind.ext EX35) (S_Kind_TOPICS.ext EX35)) (g := (mkF m 140 #[(.val (.int x0)), (.val (.ref b1)), (.val (.int (6 : Int32))), (.val (.int (1 : Int32)))] [(.ref s_Measure_BPREF)])) rfl (by rw [hml]; rfl) rfl (argsL := []) (rest := []) rfl (lenOf own_pd0 rfl) rfl (hb hby at_140) (Nat.le_of_ble_eq_true rfl) (Nat.le_of_ble_eq_true rfl) (Nat.le_of_ble_eq_true rfl) (Nat.le_of_ble_eq_true rfl)
    obtain ⟨rfl, rfl, e49⟩ := hQ49
    rw [List.append_nil] at X49
    rw [if_neg neMT] at st49
    refine own_st (T' := T49) (f' := (mkF m 143 #[(.val (.int x0)), (.val (.ref b1)), (.val (.int (6 : Int32))), (.val (.int (1 : Int32)))] [(.int (1 : Int32))])) st49 ?_
    refine own_st (T' := T49) (f' := (mkF m 144 #[(.val (.int x0)), (.val (.ref b1)), (.val (.int (6 : Int32))), (.val (.int (1 : Int32)))] [(.int (1 : Int32)), (.int (1 : Int32))])) (fun _ kont => XS.iloadN X49.here hx rfl (hb hby at_143) rfl kont) ?_
    refine own_st (T' := T49) (f' := (mkF m 147 #[(.val (.int x0)), (.val (.ref b1)), (.val (.int (6 : Int32))), (.val (.int (1 : Int32)))] [])) (fun _ kont => XS.icmpNo X49.here hx rfl (hb hby at_144) rfl (teq (by decide : (1 : Int32) = (1 : Int32))).2 kont) ?_
    refine own_st (T' := T49) (f' := (mkF m 148 #[(.val (.int x0)), (.val (.ref b1)), (.val (.int (6 : Int32))), (.val (.int (1 : Int32)))] [(.int (1 : Int32))])) (fun _ kont => XS.iconst X49.here hx rfl (hb hby at_147) kont) ?_
    refine own_st (T' := T49) (f' := (mkF m 152 #[(.val (.int x0)), (.val (.ref b1)), (.val (.int (6 : Int32))), (.val (.int (1 : Int32)))] [(.int (1 : Int32))])) (fun _ kont => XS.goto X49.here hx rfl (pc0 := 148) (pc' := 152) rfl (hb hby at_148) (by decide) (by decide) kont) ?_
    exact own_retN X49 hx hlk (t := .boolean) hret (by simp) (hb hby at_152) ⟨rfl, N_35⟩ (by decide) (by decide)
  · skip  -- i = 7
    refine own_st (T' := T35) (f' := (mkF m 127 #[(.val (.int x0)), (.val (.ref b1)), (.val (.int (7 : Int32))), .unset] [])) (fun _ kont => XS.istoreN X35.here hx rfl (hb hby at_126) rfl (l' := #[(.val (.int x0)), (.val (.ref b1)), (.val (.int (7 : Int32))), .unset]) rfl kont) ?_
    refine own_st (T' := T35) (f' := (mkF m 128 #[(.val (.int x0)), (.val (.ref b1)), (.val (.int (7 : Int32))), .unset] [(.int (7 : Int32))])) (fun _ kont => XS.iloadN X35.here hx rfl (hb hby at_127) rfl kont) ?_
    refine own_st (T' := T35) (f' := (mkF m 131 #[(.val (.int x0)), (.val (.ref b1)), (.val (.int (7 : Int32))), .unset] [])) (fun _ kont => XS.ifNo X35.here hx rfl (hb hby at_128) rfl ((if0 _ _).trans (feq (by decide : ¬ ((7 : Int32) = (0 : Int32)))).1) kont) ?_
    refine own_st (T' := T35) (f' := (mkF m 132 #[(.val (.int x0)), (.val (.ref b1)), (.val (.int (7 : Int32))), .unset] [(.int (1 : Int32))])) (fun _ kont => XS.iconst X35.here hx rfl (hb hby at_131) kont) ?_
    refine own_st (T' := T35) (f' := (mkF m 136 #[(.val (.int x0)), (.val (.ref b1)), (.val (.int (7 : Int32))), .unset] [(.int (1 : Int32))])) (fun _ kont => XS.goto X35.here hx rfl (pc0 := 132) (pc' := 136) rfl (hb hby at_132) (by decide) (by decide) kont) ?_
    refine own_st (T' := T35) (f' := (mkF m 137 #[(.val (.int x0)), (.val (.ref b1)), (.val (.int (7 : Int32))), (.val (.int (1 : Int32)))] [])) (fun _ kont => XS.istoreN X35.here hx rfl (hb hby at_136) rfl (l' := #[(.val (.int x0)), (.val (.ref b1)), (.val (.int (7 : Int32))), (.val (.int (1 : Int32)))]) rfl kont) ?_
    refine own_st (T' := T35) (f' := (mkF m 138 #[(.val (.int x0)), (.val (.ref b1)), (.val (.int (7 : Int32))), (.val (.int (1 : Int32)))] [(.ref b1)])) (fun _ kont => XS.aloadN X35.here hx rfl (hb hby at_137) rfl rfl kont) ?_
    refine own_st (T' := T35) (f' := (mkF m 139 #[(.val (.int x0)), (.val (.ref b1)), (.val (.int (7 : Int32))), (.val (.int (1 : Int32)))] [(.int (7 : Int32)), (.ref b1)])) (fun _ kont => XS.iloadN X35.here hx rfl (hb hby at_138) rfl kont) ?_
    obtain ⟨cl50, Ar50, q50, S50, N50, H50, G50⟩ := V35
    have hin50 : ¬ ((7 : Int32) < 0 ∨ cl50.slots.size ≤ ((7 : Int32)).toNatClampNeg) := inb_of S50 ⟨by decide, by decide⟩
    refine own_st (T' := T35) (f' := (mkF m 140 #[(.val (.int x0)), (.val (.ref b1)), (.val (.int (7 : Int32))), (.val (.int (1 : Int32)))] [(.ref s_Measure_P_5)])) (fun _ kont => X35.aaload hx (j := (7 : Int32)) (v := (.ref s_Measure_P_5)) (by rw [e35]; exact Ar50.1) (State.isArrayOf_alike hZ.alike Ar50.2.1) rfl Ar50.2.2 hin50 (Has.at H50 hin50 rfl) (g := (mkF m 139 #[(.val (.int x0)), (.val (.ref b1)), (.val (.int (7 : Int32))), (.val (.int (1 : Int32)))] [(.int (7 : Int32)), (.ref b1)])) rfl rfl (hb hby at_139) _ kont) ?_
    obtain ⟨v51, T51, L51, hQ51, X51, st51⟩ := own_callV X35 hx hZ e35 hown (hw _ (List.mem_of_getElem? (i := 39) rfl)) (hw _ (List.mem_of_getElem? (i := 40) rfl)) (hw _ (List.mem_of_getElem? (i := 42) rfl)) (hw _ (List.mem_of_getElem? (i := 41) rfl)) (by decide) (b := s_Measure_P_5) (E_Measure_P_5.ext EX35) (hw _ (List.mem_of_getElem? (i := 43) rfl)) (hw _ (List.mem_of_getElem? (i := 3) rfl)) (own_k1_2 l Z a0 hw s_Measure_P_5 s_Kind_MEAN s_Kind_TOPICS h35 (F_Measure_P_5_kind.ext EX35) (S_Kind_TOPICS.ext EX35)) (g := (mkF m 140 #[(.val (.int x0)), (.val (.ref b1)), (.val (.int (7 : Int32))), (.val (.int (1 : Int32)))] [(.ref s_Measure_P_5)])) rfl (by rw [hml]; rfl) rfl (argsL := []) (rest := []) rfl (lenOf own_pd0 rfl) rfl (hb hby at_140) (Nat.le_of_ble_eq_true rfl) (Nat.le_of_ble_eq_true rfl) (Nat.le_of_ble_eq_true rfl) (Nat.le_of_ble_eq_true rfl)
    obtain ⟨rfl, rfl, e51⟩ := hQ51
    rw [List.append_nil] at X51
    rw [if_neg neMT] at st51
    refine own_st (T' := T51) (f' := (mkF m 143 #[(.val (.int x0)), (.val (.ref b1)), (.val (.int (7 : Int32))), (.val (.int (1 : Int32)))] [(.int (1 : Int32))])) st51 ?_
    refine own_st (T' := T51) (f' := (mkF m 144 #[(.val (.int x0)), (.val (.ref b1)), (.val (.int (7 : Int32))), (.val (.int (1 : Int32)))] [(.int (1 : Int32)), (.int (1 : Int32))])) (fun _ kont => XS.iloadN X51.here hx rfl (hb hby at_143) rfl kont) ?_
    refine own_st (T' := T51) (f' := (mkF m 147 #[(.val (.int x0)), (.val (.ref b1)), (.val (.int (7 : Int32))), (.val (.int (1 : Int32)))] [])) (fun _ kont => XS.icmpNo X51.here hx rfl (hb hby at_144) rfl (teq (by decide : (1 : Int32) = (1 : Int32))).2 kont) ?_
    refine own_st (T' := T51) (f' := (mkF m 148 #[(.val (.int x0)), (.val (.ref b1)), (.val (.int (7 : Int32))), (.val (.int (1 : Int32)))] [(.int (1 : Int32))])) (fun _ kont => XS.iconst X51.here hx rfl (hb hby at_147) kont) ?_
    refine own_st (T' := T51) (f' := (mkF m 152 #[(.val (.int x0)), (.val (.ref b1)), (.val (.int (7 : Int32))), (.val (.int (1 : Int32)))] [(.int (1 : Int32))])) (fun _ kont => XS.goto X51.here hx rfl (pc0 := 148) (pc' := 152) rfl (hb hby at_148) (by decide) (by decide) kont) ?_
    exact own_retN X51 hx hlk (t := .boolean) hret (by simp) (hb hby at_152) ⟨rfl, N_35⟩ (by decide) (by decide)
  · skip  -- i = 8
    refine own_st (T' := T35) (f' := (mkF m 127 #[(.val (.int x0)), (.val (.ref b1)), (.val (.int (8 : Int32))), .unset] [])) (fun _ kont => XS.istoreN X35.here hx rfl (hb hby at_126) rfl (l' := #[(.val (.int x0)), (.val (.ref b1)), (.val (.int (8 : Int32))), .unset]) rfl kont) ?_
    refine own_st (T' := T35) (f' := (mkF m 128 #[(.val (.int x0)), (.val (.ref b1)), (.val (.int (8 : Int32))), .unset] [(.int (8 : Int32))])) (fun _ kont => XS.iloadN X35.here hx rfl (hb hby at_127) rfl kont) ?_
    refine own_st (T' := T35) (f' := (mkF m 131 #[(.val (.int x0)), (.val (.ref b1)), (.val (.int (8 : Int32))), .unset] [])) (fun _ kont => XS.ifNo X35.here hx rfl (hb hby at_128) rfl ((if0 _ _).trans (feq (by decide : ¬ ((8 : Int32) = (0 : Int32)))).1) kont) ?_
    refine own_st (T' := T35) (f' := (mkF m 132 #[(.val (.int x0)), (.val (.ref b1)), (.val (.int (8 : Int32))), .unset] [(.int (1 : Int32))])) (fun _ kont => XS.iconst X35.here hx rfl (hb hby at_131) kont) ?_
    refine own_st (T' := T35) (f' := (mkF m 136 #[(.val (.int x0)), (.val (.ref b1)), (.val (.int (8 : Int32))), .unset] [(.int (1 : Int32))])) (fun _ kont => XS.goto X35.here hx rfl (pc0 := 132) (pc' := 136) rfl (hb hby at_132) (by decide) (by decide) kont) ?_
    refine own_st (T' := T35) (f' := (mkF m 137 #[(.val (.int x0)), (.val (.ref b1)), (.val (.int (8 : Int32))), (.val (.int (1 : Int32)))] [])) (fun _ kont => XS.istoreN X35.here hx rfl (hb hby at_136) rfl (l' := #[(.val (.int x0)), (.val (.ref b1)), (.val (.int (8 : Int32))), (.val (.int (1 : Int32)))]) rfl kont) ?_
    refine own_st (T' := T35) (f' := (mkF m 138 #[(.val (.int x0)), (.val (.ref b1)), (.val (.int (8 : Int32))), (.val (.int (1 : Int32)))] [(.ref b1)])) (fun _ kont => XS.aloadN X35.here hx rfl (hb hby at_137) rfl rfl kont) ?_
    refine own_st (T' := T35) (f' := (mkF m 139 #[(.val (.int x0)), (.val (.ref b1)), (.val (.int (8 : Int32))), (.val (.int (1 : Int32)))] [(.int (8 : Int32)), (.ref b1)])) (fun _ kont => XS.iloadN X35.here hx rfl (hb hby at_138) rfl kont) ?_
    obtain ⟨cl52, Ar52, q52, S52, N52, H52, G52⟩ := V35
    have hin52 : ¬ ((8 : Int32) < 0 ∨ cl52.slots.size ≤ ((8 : Int32)).toNatClampNeg) := inb_of S52 ⟨by decide, by decide⟩
    refine own_st (T' := T35) (f' := (mkF m 140 #[(.val (.int x0)), (.val (.ref b1)), (.val (.int (8 : Int32))), (.val (.int (1 : Int32)))] [(.ref s_Measure_P_10)])) (fun _ kont => X35.aaload hx (j := (8 : Int32)) (v := (.ref s_Measure_P_10)) (by rw [e35]; exact Ar52.1) (State.isArrayOf_alike hZ.alike Ar52.2.1) rfl Ar52.2.2 hin52 (Has.at H52 hin52 rfl) (g := (mkF m 139 #[(.val (.int x0)), (.val (.ref b1)), (.val (.int (8 : Int32))), (.val (.int (1 : Int32)))] [(.int (8 : Int32)), (.ref b1)])) rfl rfl (hb hby at_139) _ kont) ?_
    obtain ⟨v53, T53, L53, hQ53, X53, st53⟩ := own_callV X35 hx hZ e35 hown (hw _ (List.mem_of_getElem? (i := 39) rfl)) (hw _ (List.mem_of_getElem? (i := 40) rfl)) (hw _ (List.mem_of_getElem? (i := 42) rfl)) (hw _ (List.mem_of_getElem? (i := 41) rfl)) (by decide) (b := s_Measure_P_10) (E_Measure_P_10.ext EX35) (hw _ (List.mem_of_getElem? (i := 43) rfl)) (hw _ (List.mem_of_getElem? (i := 3) rfl)) (own_k1_2 l Z a0 hw s_Measure_P_10 s_Kind_MEAN s_Kind_TOPICS h35 (F_Measure_P_10_kind.ext EX35) (S_Kind_TOPICS.ext EX35)) (g := (mkF m 140 #[(.val (.int x0)), (.val (.ref b1)), (.val (.int (8 : Int32))), (.val (.int (1 : Int32)))] [(.ref s_Measure_P_10)])) rfl (by rw [hml]; rfl) rfl (argsL := []) (rest := []) rfl (lenOf own_pd0 rfl) rfl (hb hby at_140) (Nat.le_of_ble_eq_true rfl) (Nat.le_of_ble_eq_true rfl) (Nat.le_of_ble_eq_true rfl) (Nat.le_of_ble_eq_true rfl)
    obtain ⟨rfl, rfl, e53⟩ := hQ53
    rw [List.append_nil] at X53
    rw [if_neg neMT] at st53
    refine own_st (T' := T53) (f' := (mkF m 143 #[(.val (.int x0)), (.val (.ref b1)), (.val (.int (8 : Int32))), (.val (.int (1 : Int32)))] [(.int (1 : Int32))])) st53 ?_
    refine own_st (T' := T53) (f' := (mkF m 144 #[(.val (.int x0)), (.val (.ref b1)), (.val (.int (8 : Int32))), (.val (.int (1 : Int32)))] [(.int (1 : Int32)), (.int (1 : Int32))])) (fun _ kont => XS.iloadN X53.here hx rfl (hb hby at_143) rfl kont) ?_
    refine own_st (T' := T53) (f' := (mkF m 147 #[(.val (.int x0)), (.val (.ref b1)), (.val (.int (8 : Int32))), (.val (.int (1 : Int32)))] [])) (fun _ kont => XS.icmpNo X53.here hx rfl (hb hby at_144) rfl (teq (by decide : (1 : Int32) = (1 : Int32))).2 kont) ?_
    refine own_st (T' := T53) (f' := (mkF m 148 #[(.val (.int x0)), (.val (.ref b1)), (.val (.int (8 : Int32))), (.val (.int (1 : Int32)))] [(.int (1 : Int32))])) (fun _ kont => XS.iconst X53.here hx rfl (hb hby at_147) kont) ?_
    refine own_st (T' := T53) (f' := (mkF m 152 #[(.val (.int x0)), (.val (.ref b1)), (.val (.int (8 : Int32))), (.val (.int (1 : Int32)))] [(.int (1 : Int32))])) (fun _ kont => XS.goto X53.here hx rfl (pc0 := 148) (pc' := 152) rfl (hb hby at_148) (by decide) (by decide) kont) ?_
    exact own_retN X53 hx hlk (t := .boolean) hret (by simp) (hb hby at_152) ⟨rfl, N_35⟩ (by decide) (by decide)
  · skip  -- i = 9
    refine own_st (T' := T35) (f' := (mkF m 127 #[(.val (.int x0)), (.val (.ref b1)), (.val (.int (9 : Int32))), .unset] [])) (fun _ kont => XS.istoreN X35.here hx rfl (hb hby at_126) rfl (l' := #[(.val (.int x0)), (.val (.ref b1)), (.val (.int (9 : Int32))), .unset]) rfl kont) ?_
    refine own_st (T' := T35) (f' := (mkF m 128 #[(.val (.int x0)), (.val (.ref b1)), (.val (.int (9 : Int32))), .unset] [(.int (9 : Int32))])) (fun _ kont => XS.iloadN X35.here hx rfl (hb hby at_127) rfl kont) ?_
    refine own_st (T' := T35) (f' := (mkF m 131 #[(.val (.int x0)), (.val (.ref b1)), (.val (.int (9 : Int32))), .unset] [])) (fun _ kont => XS.ifNo X35.here hx rfl (hb hby at_128) rfl ((if0 _ _).trans (feq (by decide : ¬ ((9 : Int32) = (0 : Int32)))).1) kont) ?_
    refine own_st (T' := T35) (f' := (mkF m 132 #[(.val (.int x0)), (.val (.ref b1)), (.val (.int (9 : Int32))), .unset] [(.int (1 : Int32))])) (fun _ kont => XS.iconst X35.here hx rfl (hb hby at_131) kont) ?_
    refine own_st (T' := T35) (f' := (mkF m 136 #[(.val (.int x0)), (.val (.ref b1)), (.val (.int (9 : Int32))), .unset] [(.int (1 : Int32))])) (fun _ kont => XS.goto X35.here hx rfl (pc0 := 132) (pc' := 136) rfl (hb hby at_132) (by decide) (by decide) kont) ?_
    refine own_st (T' := T35) (f' := (mkF m 137 #[(.val (.int x0)), (.val (.ref b1)), (.val (.int (9 : Int32))), (.val (.int (1 : Int32)))] [])) (fun _ kont => XS.istoreN X35.here hx rfl (hb hby at_136) rfl (l' := #[(.val (.int x0)), (.val (.ref b1)), (.val (.int (9 : Int32))), (.val (.int (1 : Int32)))]) rfl kont) ?_
    refine own_st (T' := T35) (f' := (mkF m 138 #[(.val (.int x0)), (.val (.ref b1)), (.val (.int (9 : Int32))), (.val (.int (1 : Int32)))] [(.ref b1)])) (fun _ kont => XS.aloadN X35.here hx rfl (hb hby at_137) rfl rfl kont) ?_
    refine own_st (T' := T35) (f' := (mkF m 139 #[(.val (.int x0)), (.val (.ref b1)), (.val (.int (9 : Int32))), (.val (.int (1 : Int32)))] [(.int (9 : Int32)), (.ref b1)])) (fun _ kont => XS.iloadN X35.here hx rfl (hb hby at_138) rfl kont) ?_
    obtain ⟨cl54, Ar54, q54, S54, N54, H54, G54⟩ := V35
    have hin54 : ¬ ((9 : Int32) < 0 ∨ cl54.slots.size ≤ ((9 : Int32)).toNatClampNeg) := inb_of S54 ⟨by decide, by decide⟩
    refine own_st (T' := T35) (f' := (mkF m 140 #[(.val (.int x0)), (.val (.ref b1)), (.val (.int (9 : Int32))), (.val (.int (1 : Int32)))] [(.ref s_Measure_P_100)])) (fun _ kont => X35.aaload hx (j := (9 : Int32)) (v := (.ref s_Measure_P_100)) (by rw [e35]; exact Ar54.1) (State.isArrayOf_alike hZ.alike Ar54.2.1) rfl Ar54.2.2 hin54 (Has.at H54 hin54 rfl) (g := (mkF m 139 #[(.val (.int x0)), (.val (.ref b1)), (.val (.int (9 : Int32))), (.val (.int (1 : Int32)))] [(.int (9 : Int32)), (.ref b1)])) rfl rfl (hb hby at_139) _ kont) ?_
    obtain ⟨v55, T55, L55, hQ55, X55, st55⟩ := own_callV X35 hx hZ e35 hown (hw _ (List.mem_of_getElem? (i := 39) rfl)) (hw _ (List.mem_of_getElem? (i := 40) rfl)) (hw _ (List.mem_of_getElem? (i := 42) rfl)) (hw _ (List.mem_of_getElem? (i := 41) rfl)) (by decide) (b := s_Measure_P_100) (E_Measure_P_100.ext EX35) (hw _ (List.mem_of_getElem? (i := 43) rfl)) (hw _ (List.mem_of_getElem? (i := 3) rfl)) (own_k1_2 l Z a0 hw s_Measure_P_100 s_Kind_MEAN s_Kind_TOPICS h35 (F_Measure_P_100_kind.ext EX35) (S_Kind_TOPICS.ext EX35)) (g := (mkF m 140 #[(.val (.int x0)), (.val (.ref b1)), (.val (.int (9 : Int32))), (.val (.int (1 : Int32)))] [(.ref s_Measure_P_100)])) rfl (by rw [hml]; rfl) rfl (argsL := []) (rest := []) rfl (lenOf own_pd0 rfl) rfl (hb hby at_140) (Nat.le_of_ble_eq_true rfl) (Nat.le_of_ble_eq_true rfl) (Nat.le_of_ble_eq_true rfl) (Nat.le_of_ble_eq_true rfl)
    obtain ⟨rfl, rfl, e55⟩ := hQ55
    rw [List.append_nil] at X55
    rw [if_neg neMT] at st55
    refine own_st (T' := T55) (f' := (mkF m 143 #[(.val (.int x0)), (.val (.ref b1)), (.val (.int (9 : Int32))), (.val (.int (1 : Int32)))] [(.int (1 : Int32))])) st55 ?_
    refine own_st (T' := T55) (f' := (mkF m 144 #[(.val (.int x0)), (.val (.ref b1)), (.val (.int (9 : Int32))), (.val (.int (1 : Int32)))] [(.int (1 : Int32)), (.int (1 : Int32))])) (fun _ kont => XS.iloadN X55.here hx rfl (hb hby at_143) rfl kont) ?_
    refine own_st (T' := T55) (f' := (mkF m 147 #[(.val (.int x0)), (.val (.ref b1)), (.val (.int (9 : Int32))), (.val (.int (1 : Int32)))] [])) (fun _ kont => XS.icmpNo X55.here hx rfl (hb hby at_144) rfl (teq (by decide : (1 : Int32) = (1 : Int32))).2 kont) ?_
    refine own_st (T' := T55) (f' := (mkF m 148 #[(.val (.int x0)), (.val (.ref b1)), (.val (.int (9 : Int32))), (.val (.int (1 : Int32)))] [(.int (1 : Int32))])) (fun _ kont => XS.iconst X55.here hx rfl (hb hby at_147) kont) ?_
    refine own_st (T' := T55) (f' := (mkF m 152 #[(.val (.int x0)), (.val (.ref b1)), (.val (.int (9 : Int32))), (.val (.int (1 : Int32)))] [(.int (1 : Int32))])) (fun _ kont => XS.goto X55.here hx rfl (pc0 := 148) (pc' := 152) rfl (hb hby at_148) (by decide) (by decide) kont) ?_
    exact own_retN X55 hx hlk (t := .boolean) hret (by simp) (hb hby at_152) ⟨rfl, N_35⟩ (by decide) (by decide)
  · skip  -- i = 10
    refine own_st (T' := T35) (f' := (mkF m 127 #[(.val (.int x0)), (.val (.ref b1)), (.val (.int (10 : Int32))), .unset] [])) (fun _ kont => XS.istoreN X35.here hx rfl (hb hby at_126) rfl (l' := #[(.val (.int x0)), (.val (.ref b1)), (.val (.int (10 : Int32))), .unset]) rfl kont) ?_
    refine own_st (T' := T35) (f' := (mkF m 128 #[(.val (.int x0)), (.val (.ref b1)), (.val (.int (10 : Int32))), .unset] [(.int (10 : Int32))])) (fun _ kont => XS.iloadN X35.here hx rfl (hb hby at_127) rfl kont) ?_
    refine own_st (T' := T35) (f' := (mkF m 131 #[(.val (.int x0)), (.val (.ref b1)), (.val (.int (10 : Int32))), .unset] [])) (fun _ kont => XS.ifNo X35.here hx rfl (hb hby at_128) rfl ((if0 _ _).trans (feq (by decide : ¬ ((10 : Int32) = (0 : Int32)))).1) kont) ?_
    refine own_st (T' := T35) (f' := (mkF m 132 #[(.val (.int x0)), (.val (.ref b1)), (.val (.int (10 : Int32))), .unset] [(.int (1 : Int32))])) (fun _ kont => XS.iconst X35.here hx rfl (hb hby at_131) kont) ?_
    refine own_st (T' := T35) (f' := (mkF m 136 #[(.val (.int x0)), (.val (.ref b1)), (.val (.int (10 : Int32))), .unset] [(.int (1 : Int32))])) (fun _ kont => XS.goto X35.here hx rfl (pc0 := 132) (pc' := 136) rfl (hb hby at_132) (by decide) (by decide) kont) ?_
    refine own_st (T' := T35) (f' := (mkF m 137 #[(.val (.int x0)), (.val (.ref b1)), (.val (.int (10 : Int32))), (.val (.int (1 : Int32)))] [])) (fun _ kont => XS.istoreN X35.here hx rfl (hb hby at_136) rfl (l' := #[(.val (.int x0)), (.val (.ref b1)), (.val (.int (10 : Int32))), (.val (.int (1 : Int32)))]) rfl kont) ?_
    refine own_st (T' := T35) (f' := (mkF m 138 #[(.val (.int x0)), (.val (.ref b1)), (.val (.int (10 : Int32))), (.val (.int (1 : Int32)))] [(.ref b1)])) (fun _ kont => XS.aloadN X35.here hx rfl (hb hby at_137) rfl rfl kont) ?_
    refine own_st (T' := T35) (f' := (mkF m 139 #[(.val (.int x0)), (.val (.ref b1)), (.val (.int (10 : Int32))), (.val (.int (1 : Int32)))] [(.int (10 : Int32)), (.ref b1)])) (fun _ kont => XS.iloadN X35.here hx rfl (hb hby at_138) rfl kont) ?_
    obtain ⟨cl56, Ar56, q56, S56, N56, H56, G56⟩ := V35
    have hin56 : ¬ ((10 : Int32) < 0 ∨ cl56.slots.size ≤ ((10 : Int32)).toNatClampNeg) := inb_of S56 ⟨by decide, by decide⟩
    refine own_st (T' := T35) (f' := (mkF m 140 #[(.val (.int x0)), (.val (.ref b1)), (.val (.int (10 : Int32))), (.val (.int (1 : Int32)))] [(.ref s_Measure_RECALL_5)])) (fun _ kont => X35.aaload hx (j := (10 : Int32)) (v := (.ref s_Measure_RECALL_5)) (by rw [e35]; exact Ar56.1) (State.isArrayOf_alike hZ.alike Ar56.2.1) rfl Ar56.2.2 hin56 (Has.at H56 hin56 rfl) (g := (mkF m 139 #[(.val (.int x0)), (.val (.ref b1)), (.val (.int (10 : Int32))), (.val (.int (1 : Int32)))] [(.int (10 : Int32)), (.ref b1)])) rfl rfl (hb hby at_139) _ kont) ?_
    obtain ⟨v57, T57, L57, hQ57, X57, st57⟩ := own_callV X35 hx hZ e35 hown (hw _ (List.mem_of_getElem? (i := 39) rfl)) (hw _ (List.mem_of_getElem? (i := 40) rfl)) (hw _ (List.mem_of_getElem? (i := 42) rfl)) (hw _ (List.mem_of_getElem? (i := 41) rfl)) (by decide) (b := s_Measure_RECALL_5) (E_Measure_RECALL_5.ext EX35) (hw _ (List.mem_of_getElem? (i := 43) rfl)) (hw _ (List.mem_of_getElem? (i := 3) rfl)) (own_k1_2 l Z a0 hw s_Measure_RECALL_5 s_Kind_MEAN s_Kind_TOPICS h35 (F_Measure_RECALL_5_kind.ext EX35) (S_Kind_TOPICS.ext EX35)) (g := (mkF m 140 #[(.val (.int x0)), (.val (.ref b1)), (.val (.int (10 : Int32))), (.val (.int (1 : Int32)))] [(.ref s_Measure_RECALL_5)])) rfl (by rw [hml]; rfl) rfl (argsL := []) (rest := []) rfl (lenOf own_pd0 rfl) rfl (hb hby at_140) (Nat.le_of_ble_eq_true rfl) (Nat.le_of_ble_eq_true rfl) (Nat.le_of_ble_eq_true rfl) (Nat.le_of_ble_eq_true rfl)
    obtain ⟨rfl, rfl, e57⟩ := hQ57
    rw [List.append_nil] at X57
    rw [if_neg neMT] at st57
    refine own_st (T' := T57) (f' := (mkF m 143 #[(.val (.int x0)), (.val (.ref b1)), (.val (.int (10 : Int32))), (.val (.int (1 : Int32)))] [(.int (1 : Int32))])) st57 ?_
    refine own_st (T' := T57) (f' := (mkF m 144 #[(.val (.int x0)), (.val (.ref b1)), (.val (.int (10 : Int32))), (.val (.int (1 : Int32)))] [(.int (1 : Int32)), (.int (1 : Int32))])) (fun _ kont => XS.iloadN X57.here hx rfl (hb hby at_143) rfl kont) ?_
    refine own_st (T' := T57) (f' := (mkF m 147 #[(.val (.int x0)), (.val (.ref b1)), (.val (.int (10 : Int32))), (.val (.int (1 : Int32)))] [])) (fun _ kont => XS.icmpNo X57.here hx rfl (hb hby at_144) rfl (teq (by decide : (1 : Int32) = (1 : Int32))).2 kont) ?_
    refine own_st (T' := T57) (f' := (mkF m 148 #[(.val (.int x0)), (.val (.ref b1)), (.val (.int (10 : Int32))), (.val (.int (1 : Int32)))] [(.int (1 : Int32))])) (fun _ kont => XS.iconst X57.here hx rfl (hb hby at_147) kont) ?_
    refine own_st (T' := T57) (f' := (mkF m 152 #[(.val (.int x0)), (.val (.ref b1)), (.val (.int (10 : Int32))), (.val (.int (1 : Int32)))] [(.int (1 : Int32))])) (fun _ kont => XS.goto X57.here hx rfl (pc0 := 148) (pc' := 152) rfl (hb hby at_148) (by decide) (by decide) kont) ?_
    exact own_retN X57 hx hlk (t := .boolean) hret (by simp) (hb hby at_152) ⟨rfl, N_35⟩ (by decide) (by decide)
  · skip  -- i = 11
    refine own_st (T' := T35) (f' := (mkF m 127 #[(.val (.int x0)), (.val (.ref b1)), (.val (.int (11 : Int32))), .unset] [])) (fun _ kont => XS.istoreN X35.here hx rfl (hb hby at_126) rfl (l' := #[(.val (.int x0)), (.val (.ref b1)), (.val (.int (11 : Int32))), .unset]) rfl kont) ?_
    refine own_st (T' := T35) (f' := (mkF m 128 #[(.val (.int x0)), (.val (.ref b1)), (.val (.int (11 : Int32))), .unset] [(.int (11 : Int32))])) (fun _ kont => XS.iloadN X35.here hx rfl (hb hby at_127) rfl kont) ?_
    refine own_st (T' := T35) (f' := (mkF m 131 #[(.val (.int x0)), (.val (.ref b1)), (.val (.int (11 : Int32))), .unset] [])) (fun _ kont => XS.ifNo X35.here hx rfl (hb hby at_128) rfl ((if0 _ _).trans (feq (by decide : ¬ ((11 : Int32) = (0 : Int32)))).1) kont) ?_
    refine own_st (T' := T35) (f' := (mkF m 132 #[(.val (.int x0)), (.val (.ref b1)), (.val (.int (11 : Int32))), .unset] [(.int (1 : Int32))])) (fun _ kont => XS.iconst X35.here hx rfl (hb hby at_131) kont) ?_
    refine own_st (T' := T35) (f' := (mkF m 136 #[(.val (.int x0)), (.val (.ref b1)), (.val (.int (11 : Int32))), .unset] [(.int (1 : Int32))])) (fun _ kont => XS.goto X35.here hx rfl (pc0 := 132) (pc' := 136) rfl (hb hby at_132) (by decide) (by decide) kont) ?_
    refine own_st (T' := T35) (f' := (mkF m 137 #[(.val (.int x0)), (.val (.ref b1)), (.val (.int (11 : Int32))), (.val (.int (1 : Int32)))] [])) (fun _ kont => XS.istoreN X35.here hx rfl (hb hby at_136) rfl (l' := #[(.val (.int x0)), (.val (.ref b1)), (.val (.int (11 : Int32))), (.val (.int (1 : Int32)))]) rfl kont) ?_
    refine own_st (T' := T35) (f' := (mkF m 138 #[(.val (.int x0)), (.val (.ref b1)), (.val (.int (11 : Int32))), (.val (.int (1 : Int32)))] [(.ref b1)])) (fun _ kont => XS.aloadN X35.here hx rfl (hb hby at_137) rfl rfl kont) ?_
    refine own_st (T' := T35) (f' := (mkF m 139 #[(.val (.int x0)), (.val (.ref b1)), (.val (.int (11 : Int32))), (.val (.int (1 : Int32)))] [(.int (11 : Int32)), (.ref b1)])) (fun _ kont => XS.iloadN X35.here hx rfl (hb hby at_138) rfl kont) ?_
    obtain ⟨cl58, Ar58, q58, S58, N58, H58, G58⟩ := V35
    have hin58 : ¬ ((11 : Int32) < 0 ∨ cl58.slots.size ≤ ((11 : Int32)).toNatClampNeg) := inb_of S58 ⟨by decide, by decide⟩
    refine own_st (T' := T35) (f' := (mkF m 140 #[(.val (.int x0)), (.val (.ref b1)), (.val (.int (11 : Int32))), (.val (.int (1 : Int32)))] [(.ref s_Measure_RECALL_10)])) (fun _ kont => X35.aaload hx (j := (11 : Int32)) (v := (.ref s_Measure_RECALL_10)) (by rw [e35]; exact Ar58.1) (State.isArrayOf_alike hZ.alike Ar58.2.1) rfl Ar58.2.2 hin58 (Has.at H58 hin58 rfl) (g := (mkF m 139 #[(.val (.int x0)), (.val (.ref b1)), (.val (.int (11 : Int32))), (.val (.int (1 : Int32)))] [(.int (11 : Int32)), (.ref b1)])) rfl rfl (hb hby at_139) _ kont) ?_
    obtain ⟨v59, T59, L59, hQ59, X59, st59⟩ := own_callV X35 hx hZ e35 hown (hw _ (List.mem_of_getElem? (i := 39) rfl)) (hw _ (List.mem_of_getElem? (i := 40) rfl)) (hw _ (List.mem_of_getElem? (i := 42) rfl)) (hw _ (List.mem_of_getElem? (i := 41) rfl)) (by decide) (b := s_Measure_RECALL_10) (E_Measure_RECALL_10.ext EX35) (hw _ (List.mem_of_getElem? (i := 43) rfl)) (hw _ (List.mem_of_getElem? (i := 3) rfl)) (own_k1_2 l Z a0 hw s_Measure_RECALL_10 s_Kind_MEAN s_Kind_TOPICS h35 (F_Measure_RECALL_10_kind.ext EX35) (S_Kind_TOPICS.ext EX35)) (g := (mkF m 140 #[(.val (.int x0)), (.val (.ref b1)), (.val (.int (11 : Int32))), (.val (.int (1 : Int32)))] [(.ref s_Measure_RECALL_10)])) rfl (by rw [hml]; rfl) rfl (argsL := []) (rest := []) rfl (lenOf own_pd0 rfl) rfl (hb hby at_140) (Nat.le_of_ble_eq_true rfl) (Nat.le_of_ble_eq_true rfl) (Nat.le_of_ble_eq_true rfl) (Nat.le_of_ble_eq_true rfl)
    obtain ⟨rfl, rfl, e59⟩ := hQ59
    rw [List.append_nil] at X59
    rw [if_neg neMT] at st59
    refine own_st (T' := T59) (f' := (mkF m 143 #[(.val (.int x0)), (.val (.ref b1)), (.val (.int (11 : Int32))), (.val (.int (1 : Int32)))] [(.int (1 : Int32))])) st59 ?_
    refine own_st (T' := T59) (f' := (mkF m 144 #[(.val (.int x0)), (.val (.ref b1)), (.val (.int (11 : Int32))), (.val (.int (1 : Int32)))] [(.int (1 : Int32)), (.int (1 : Int32))])) (fun _ kont => XS.iloadN X59.here hx rfl (hb hby at_143) rfl kont) ?_
    refine own_st (T' := T59) (f' := (mkF m 147 #[(.val (.int x0)), (.val (.ref b1)), (.val (.int (11 : Int32))), (.val (.int (1 : Int32)))] [])) (fun _ kont => XS.icmpNo X59.here hx rfl (hb hby at_144) rfl (teq (by decide : (1 : Int32) = (1 : Int32))).2 kont) ?_
    refine own_st (T' := T59) (f' := (mkF m 148 #[(.val (.int x0)), (.val (.ref b1)), (.val (.int (11 : Int32))), (.val (.int (1 : Int32)))] [(.int (1 : Int32))])) (fun _ kont => XS.iconst X59.here hx rfl (hb hby at_147) kont) ?_
    refine own_st (T' := T59) (f' := (mkF m 152 #[(.val (.int x0)), (.val (.ref b1)), (.val (.int (11 : Int32))), (.val (.int (1 : Int32)))] [(.int (1 : Int32))])) (fun _ kont => XS.goto X59.here hx rfl (pc0 := 148) (pc' := 152) rfl (hb hby at_148) (by decide) (by decide) kont) ?_
    exact own_retN X59 hx hlk (t := .boolean) hret (by simp) (hb hby at_152) ⟨rfl, N_35⟩ (by decide) (by decide)
  · skip  -- i = 12
    refine own_st (T' := T35) (f' := (mkF m 127 #[(.val (.int x0)), (.val (.ref b1)), (.val (.int (12 : Int32))), .unset] [])) (fun _ kont => XS.istoreN X35.here hx rfl (hb hby at_126) rfl (l' := #[(.val (.int x0)), (.val (.ref b1)), (.val (.int (12 : Int32))), .unset]) rfl kont) ?_
    refine own_st (T' := T35) (f' := (mkF m 128 #[(.val (.int x0)), (.val (.ref b1)), (.val (.int (12 : Int32))), .unset] [(.int (12 : Int32))])) (fun _ kont => XS.iloadN X35.here hx rfl (hb hby at_127) rfl kont) ?_
    refine own_st (T' := T35) (f' := (mkF m 131 #[(.val (.int x0)), (.val (.ref b1)), (.val (.int (12 : Int32))), .unset] [])) (fun _ kont => XS.ifNo X35.here hx rfl (hb hby at_128) rfl ((if0 _ _).trans (feq (by decide : ¬ ((12 : Int32) = (0 : Int32)))).1) kont) ?_
    refine own_st (T' := T35) (f' := (mkF m 132 #[(.val (.int x0)), (.val (.ref b1)), (.val (.int (12 : Int32))), .unset] [(.int (1 : Int32))])) (fun _ kont => XS.iconst X35.here hx rfl (hb hby at_131) kont) ?_
    refine own_st (T' := T35) (f' := (mkF m 136 #[(.val (.int x0)), (.val (.ref b1)), (.val (.int (12 : Int32))), .unset] [(.int (1 : Int32))])) (fun _ kont => XS.goto X35.here hx rfl (pc0 := 132) (pc' := 136) rfl (hb hby at_132) (by decide) (by decide) kont) ?_
    refine own_st (T' := T35) (f' := (mkF m 137 #[(.val (.int x0)), (.val (.ref b1)), (.val (.int (12 : Int32))), (.val (.int (1 : Int32)))] [])) (fun _ kont => XS.istoreN X35.here hx rfl (hb hby at_136) rfl (l' := #[(.val (.int x0)), (.val (.ref b1)), (.val (.int (12 : Int32))), (.val (.int (1 : Int32)))]) rfl kont) ?_
    refine own_st (T' := T35) (f' := (mkF m 138 #[(.val (.int x0)), (.val (.ref b1)), (.val (.int (12 : Int32))), (.val (.int (1 : Int32)))] [(.ref b1)])) (fun _ kont => XS.aloadN X35.here hx rfl (hb hby at_137) rfl rfl kont) ?_
    refine own_st (T' := T35) (f' := (mkF m 139 #[(.val (.int x0)), (.val (.ref b1)), (.val (.int (12 : Int32))), (.val (.int (1 : Int32)))] [(.int (12 : Int32)), (.ref b1)])) (fun _ kont => XS.iloadN X35.here hx rfl (hb hby at_138) rfl kont) ?_
    obtain ⟨cl60, Ar60, q60, S60, N60, H60, G60⟩ := V35
    have hin60 : ¬ ((12 : Int32) < 0 ∨ cl60.slots.size ≤ ((12 : Int32)).toNatClampNeg) := inb_of S60 ⟨by decide, by decide⟩
    refine own_st (T' := T35) (f' := (mkF m 140 #[(.val (.int x0)), (.val (.ref b1)), (.val (.int (12 : Int32))), (.val (.int (1 : Int32)))] [(.ref s_Measure_RECALL_100)])) (fun _ kont => X35.aaload hx (j := (12 : Int32)) (v := (.ref s_Measure_RECALL_100)) (by rw [e35]; exact Ar60.1) (State.isArrayOf_alike hZ.alike Ar60.2.1) rfl Ar60.2.2 hin60 (Has.at H60 hin60 rfl) (g := (mkF m 139 #[(.val (.int x0)), (.val (.ref b1)), (.val (.int (12 : Int32))), (.val (.int (1 : Int32)))] [(.int (12 : Int32)), (.ref b1)])) rfl rfl (hb hby at_139) _ kont) ?_
    obtain ⟨v61, T61, L61, hQ61, X61, st61⟩ := own_callV X35 hx hZ e35 hown (hw _ (List.mem_of_getElem? (i := 39) rfl)) (hw _ (List.mem_of_getElem? (i := 40) rfl)) (hw _ (List.mem_of_getElem? (i := 42) rfl)) (hw _ (List.mem_of_getElem? (i := 41) rfl)) (by decide) (b := s_Measure_RECALL_100) (E_Measure_RECALL_100.ext EX35) (hw _ (List.mem_of_getElem? (i := 43) rfl)) (hw _ (List.mem_of_getElem? (i := 3) rfl)) (own_k1_2 l Z a0 hw s_Measure_RECALL_100 s_Kind_MEAN s_Kind_TOPICS h35 (F_Measure_RECALL_100_kind.ext EX35) (S_Kind_TOPICS.ext EX35)) (g := (mkF m 140 #[(.val (.int x0)), (.val (.ref b1)), (.val (.int (12 : Int32))), (.val (.int (1 : Int32)))] [(.ref s_Measure_RECALL_100)])) rfl (by rw [hml]; rfl) rfl (argsL := []) (rest := []) rfl (lenOf own_pd0 rfl) rfl (hb hby at_140) (Nat.le_of_ble_eq_true rfl) (Nat.le_of_ble_eq_true rfl) (Nat.le_of_ble_eq_true rfl) (Nat.le_of_ble_eq_true rfl)
    obtain ⟨rfl, rfl, e61⟩ := hQ61
    rw [List.append_nil] at X61
    rw [if_neg neMT] at st61
    refine own_st (T' := T61) (f' := (mkF m 143 #[(.val (.int x0)), (.val (.ref b1)), (.val (.int (12 : Int32))), (.val (.int (1 : Int32)))] [(.int (1 : Int32))])) st61 ?_
    refine own_st (T' := T61) (f' := (mkF m 144 #[(.val (.int x0)), (.val (.ref b1)), (.val (.int (12 : Int32))), (.val (.int (1 : Int32)))] [(.int (1 : Int32)), (.int (1 : Int32))])) (fun _ kont => XS.iloadN X61.here hx rfl (hb hby at_143) rfl kont) ?_
    refine own_st (T' := T61) (f' := (mkF m 147 #[(.val (.int x0)), (.val (.ref b1)), (.val (.int (12 : Int32))), (.val (.int (1 : Int32)))] [])) (fun _ kont => XS.icmpNo X61.here hx rfl (hb hby at_144) rfl (teq (by decide : (1 : Int32) = (1 : Int32))).2 kont) ?_
    refine own_st (T' := T61) (f' := (mkF m 148 #[(.val (.int x0)), (.val (.ref b1)), (.val (.int (12 : Int32))), (.val (.int (1 : Int32)))] [(.int (1 : Int32))])) (fun _ kont => XS.iconst X61.here hx rfl (hb hby at_147) kont) ?_
    refine own_st (T' := T61) (f' := (mkF m 152 #[(.val (.int x0)), (.val (.ref b1)), (.val (.int (12 : Int32))), (.val (.int (1 : Int32)))] [(.int (1 : Int32))])) (fun _ kont => XS.goto X61.here hx rfl (pc0 := 148) (pc' := 152) rfl (hb hby at_148) (by decide) (by decide) kont) ?_
    exact own_retN X61 hx hlk (t := .boolean) hret (by simp) (hb hby at_152) ⟨rfl, N_35⟩ (by decide) (by decide)
  · skip  -- i = 13
    refine own_st (T' := T35) (f' := (mkF m 127 #[(.val (.int x0)), (.val (.ref b1)), (.val (.int (13 : Int32))), .unset] [])) (fun _ kont => XS.istoreN X35.here hx rfl (hb hby at_126) rfl (l' := #[(.val (.int x0)), (.val (.ref b1)), (.val (.int (13 : Int32))), .unset]) rfl kont) ?_
    refine own_st (T' := T35) (f' := (mkF m 128 #[(.val (.int x0)), (.val (.ref b1)), (.val (.int (13 : Int32))), .unset] [(.int (13 : Int32))])) (fun _ kont => XS.iloadN X35.here hx rfl (hb hby at_127) rfl kont) ?_
    refine own_st (T' := T35) (f' := (mkF m 131 #[(.val (.int x0)), (.val (.ref b1)), (.val (.int (13 : Int32))), .unset] [])) (fun _ kont => XS.ifNo X35.here hx rfl (hb hby at_128) rfl ((if0 _ _).trans (feq (by decide : ¬ ((13 : Int32) = (0 : Int32)))).1) kont) ?_
    refine own_st (T' := T35) (f' := (mkF m 132 #[(.val (.int x0)), (.val (.ref b1)), (.val (.int (13 : Int32))), .unset] [(.int (1 : Int32))])) (fun _ kont => XS.iconst X35.here hx rfl (hb hby at_131) kont) ?_
    refine own_st (T' := T35) (f' := (mkF m 136 #[(.val (.int x0)), (.val (.ref b1)), (.val (.int (13 : Int32))), .unset] [(.int (1 : Int32))])) (fun _ kont => XS.goto X35.here hx rfl (pc0 := 132) (pc' := 136) rfl (hb hby at_132) (by decide) (by decide) kont) ?_
    refine own_st (T' := T35) (f' := (mkF m 137 #[(.val (.int x0)), (.val (.ref b1)), (.val (.int (13 : Int32))), (.val (.int (1 : Int32)))] [])) (fun _ kont => XS.istoreN X35.here hx rfl (hb hby at_136) rfl (l' := #[(.val (.int x0)), (.val (.ref b1)), (.val (.int (13 : Int32))), (.val (.int (1 : Int32)))]) rfl kont) ?_
    refine own_st (T' := T35) (f' := (mkF m 138 #[(.val (.int x0)), (.val (.ref b1)), (.val (.int (13 : Int32))), (.val (.int (1 : Int32)))] [(.ref b1)])) (fun _ kont => XS.aloadN X35.here hx rfl (hb hby at_137) rfl rfl kont) ?_
    refine own_st (T' := T35) (f' := (mkF m 139 #[(.val (.int x0)), (.val (.ref b1)), (.val (.int (13 : Int32))), (.val (.int (1 : Int32)))] [(.int (13 : Int32)), (.ref b1)])) (fun _ kont => XS.iloadN X35.here hx rfl (hb hby at_138) rfl kont) ?_
    obtain ⟨cl62, Ar62, q62, S62, N62, H62, G62⟩ := V35
    have hin62 : ¬ ((13 : Int32) < 0 ∨ cl62.slots.size ≤ ((13 : Int32)).toNatClampNeg) := inb_of S62 ⟨by decide, by decide⟩
    refine own_st (T' := T35) (f' := (mkF m 140 #[(.val (.int x0)), (.val (.ref b1)), (.val (.int (13 : Int32))), (.val (.int (1 : Int32)))] [(.ref s_Measure_RECALL_1000)])) (fun _ kont => X35.aaload hx (j := (13 : Int32)) (v := (.ref s_Measure_RECALL_1000)) (by rw [e35]; exact Ar62.1) (State.isArrayOf_alike hZ.alike Ar62.2.1) rfl Ar62.2.2 hin62 (Has.at H62 hin62 rfl) (g := (mkF m 139 #[(.val (.int x0)), (.val (.ref b1)), (.val (.int (13 : Int32))), (.val (.int (1 : Int32)))] [(.int (13 : Int32)), (.ref b1)])) rfl rfl (hb hby at_139) _ kont) ?_
    obtain ⟨v63, T63, L63, hQ63, X63, st63⟩ := own_callV X35 hx hZ e35 hown (hw _ (List.mem_of_getElem? (i := 39) rfl)) (hw _ (List.mem_of_getElem? (i := 40) rfl)) (hw _ (List.mem_of_getElem? (i := 42) rfl)) (hw _ (List.mem_of_getElem? (i := 41) rfl)) (by decide) (b := s_Measure_RECALL_1000) (E_Measure_RECALL_1000.ext EX35) (hw _ (List.mem_of_getElem? (i := 43) rfl)) (hw _ (List.mem_of_getElem? (i := 3) rfl)) (own_k1_2 l Z a0 hw s_Measure_RECALL_1000 s_Kind_MEAN s_Kind_TOPICS h35 (F_Measure_RECALL_1000_kind.ext EX35) (S_Kind_TOPICS.ext EX35)) (g := (mkF m 140 #[(.val (.int x0)), (.val (.ref b1)), (.val (.int (13 : Int32))), (.val (.int (1 : Int32)))] [(.ref s_Measure_RECALL_1000)])) rfl (by rw [hml]; rfl) rfl (argsL := []) (rest := []) rfl (lenOf own_pd0 rfl) rfl (hb hby at_140) (Nat.le_of_ble_eq_true rfl) (Nat.le_of_ble_eq_true rfl) (Nat.le_of_ble_eq_true rfl) (Nat.le_of_ble_eq_true rfl)
    obtain ⟨rfl, rfl, e63⟩ := hQ63
    rw [List.append_nil] at X63
    rw [if_neg neMT] at st63
    refine own_st (T' := T63) (f' := (mkF m 143 #[(.val (.int x0)), (.val (.ref b1)), (.val (.int (13 : Int32))), (.val (.int (1 : Int32)))] [(.int (1 : Int32))])) st63 ?_
    refine own_st (T' := T63) (f' := (mkF m 144 #[(.val (.int x0)), (.val (.ref b1)), (.val (.int (13 : Int32))), (.val (.int (1 : Int32)))] [(.int (1 : Int32)), (.int (1 : Int32))])) (fun _ kont => XS.iloadN X63.here hx rfl (hb hby at_143) rfl kont) ?_
    refine own_st (T' := T63) (f' := (mkF m 147 #[(.val (.int x0)), (.val (.ref b1)), (.val (.int (13 : Int32))), (.val (.int (1 : Int32)))] [])) (fun _ kont => XS.icmpNo X63.here hx rfl (hb hby at_144) rfl (teq (by decide : (1 : Int32) = (1 : Int32))).2 kont) ?_
    refine own_st (T' := T63) (f' := (mkF m 148 #[(.val (.int x0)), (.val (.ref b1)), (.val (.int (13 : Int32))), (.val (.int (1 : Int32)))] [(.int (1 : Int32))])) (fun _ kont => XS.iconst X63.here hx rfl (hb hby at_147) kont) ?_
    refine own_st (T' := T63) (f' := (mkF m 152 #[(.val (.int x0)), (.val (.ref b1)), (.val (.int (13 : Int32))), (.val (.int (1 : Int32)))] [(.int (1 : Int32))])) (fun _ kont => XS.goto X63.here hx rfl (pc0 := 148) (pc' := 152) rfl (hb hby at_148) (by decide) (by decide) kont) ?_
    exact own_retN X63 hx hlk (t := .boolean) hret (by simp) (hb hby at_152) ⟨rfl, N_35⟩ (by decide) (by decide)
  · skip  -- i = 14
    refine own_st (T' := T35) (f' := (mkF m 127 #[(.val (.int x0)), (.val (.ref b1)), (.val (.int (14 : Int32))), .unset] [])) (fun _ kont => XS.istoreN X35.here hx rfl (hb hby at_126) rfl (l' := #[(.val (.int x0)), (.val (.ref b1)), (.val (.int (14 : Int32))), .unset]) rfl kont) ?_
    refine own_st (T' := T35) (f' := (mkF m 128 #[(.val (.int x0)), (.val (.ref b1)), (.val (.int (14 : Int32))), .unset] [(.int (14 : Int32))])) (fun _ kont => XS.iloadN X35.here hx rfl (hb hby at_127) rfl kont) ?_
    refine own_st (T' := T35) (f' := (mkF m 131 #[(.val (.int x0)), (.val (.ref b1)), (.val (.int (14 : Int32))), .unset] [])) (fun _ kont => XS.ifNo X35.here hx rfl (hb hby at_128) rfl ((if0 _ _).trans (feq (by decide : ¬ ((14 : Int32) = (0 : Int32)))).1) kont) ?_
    refine own_st (T' := T35) (f' := (mkF m 132 #[(.val (.int x0)), (.val (.ref b1)), (.val (.int (14 : Int32))), .unset] [(.int (1 : Int32))])) (fun _ kont => XS.iconst X35.here hx rfl (hb hby at_131) kont) ?_
    refine own_st (T' := T35) (f' := (mkF m 136 #[(.val (.int x0)), (.val (.ref b1)), (.val (.int (14 : Int32))), .unset] [(.int (1 : Int32))])) (fun _ kont => XS.goto X35.here hx rfl (pc0 := 132) (pc' := 136) rfl (hb hby at_132) (by decide) (by decide) kont) ?_
    refine own_st (T' := T35) (f' := (mkF m 137 #[(.val (.int x0)), (.val (.ref b1)), (.val (.int (14 : Int32))), (.val (.int (1 : Int32)))] [])) (fun _ kont => XS.istoreN X35.here hx rfl (hb hby at_136) rfl (l' := #[(.val (.int x0)), (.val (.ref b1)), (.val (.int (14 : Int32))), (.val (.int (1 : Int32)))]) rfl kont) ?_
    refine own_st (T' := T35) (f' := (mkF m 138 #[(.val (.int x0)), (.val (.ref b1)), (.val (.int (14 : Int32))), (.val (.int (1 : Int32)))] [(.ref b1)])) (fun _ kont => XS.aloadN X35.here hx rfl (hb hby at_137) rfl rfl kont) ?_
    refine own_st (T' := T35) (f' := (mkF m 139 #[(.val (.int x0)), (.val (.ref b1)), (.val (.int (14 : Int32))), (.val (.int (1 : Int32)))] [(.int (14 : Int32)), (.ref b1)])) (fun _ kont => XS.iloadN X35.here hx rfl (hb hby at_138) rfl kont) ?_
    obtain ⟨cl64, Ar64, q64, S64, N64, H64, G64⟩ := V35
    have hin64 : ¬ ((14 : Int32) < 0 ∨ cl64.slots.size ≤ ((14 : Int32)).toNatClampNeg) := inb_of S64 ⟨by decide, by decide⟩
    refine own_st (T' := T35) (f' := (mkF m 140 #[(.val (.int x0)), (.val (.ref b1)), (.val (.int (14 : Int32))), (.val (.int (1 : Int32)))] [(.ref s_Measure_NDCG)])) (fun _ kont => X35.aaload hx (j := (14 : Int32)) (v := (.ref s_Measure_NDCG)) (by rw [e35]; exact Ar64.1) (State.isArrayOf_alike hZ.alike Ar64.2.1) rfl Ar64.2.2 hin64 (Has.at H64 hin64 rfl) (g := (mkF m 139 #[(.val (.int x0)), (.val (.ref b1)), (.val (.int (14 : Int32))), (.val (.int (1 : Int32)))] [(.int (14 : Int32)), (.ref b1)])) rfl rfl (hb hby at_139) _ kont) ?_
    obtain ⟨v65, T65, L65, hQ65, X65, st65⟩ := own_callV X35 hx hZ e35 hown (hw _ (List.mem_of_getElem? (i := 39) rfl)) (hw _ (List.mem_of_getElem? (i := 40) rfl)) (hw _ (List.mem_of_getElem? (i := 42) rfl)) (hw _ (List.mem_of_getElem? (i := 41) rfl)) (by decide) (b := s_Measure_NDCG) (E_Measure_NDCG.ext EX35) (hw _ (List.mem_of_getElem? (i := 43) rfl)) (hw _ (List.mem_of_getElem? (i := 3) rfl)) (own_k1_2 l Z a0 hw s_Measure_NDCG s_Kind_MEAN s_Kind_TOPICS h35 (F_Measure_NDCG_kind.ext EX35) (S_Kind_TOPICS.ext EX35)) (g := (mkF m 140 #[(.val (.int x0)), (.val (.ref b1)), (.val (.int (14 : Int32))), (.val (.int (1 : Int32)))] [(.ref s_Measure_NDCG)])) rfl (by rw [hml]; rfl) rfl (argsL := []) (rest := []) rfl (lenOf own_pd0 rfl) rfl (hb hby at_140) (Nat.le_of_ble_eq_true rfl) (Nat.le_of_ble_eq_true rfl) (Nat.le_of_ble_eq_true rfl) (Nat.le_of_ble_eq_true rfl)
    obtain ⟨rfl, rfl, e65⟩ := hQ65
    rw [List.append_nil] at X65
    rw [if_neg neMT] at st65
    refine own_st (T' := T65) (f' := (mkF m 143 #[(.val (.int x0)), (.val (.ref b1)), (.val (.int (14 : Int32))), (.val (.int (1 : Int32)))] [(.int (1 : Int32))])) st65 ?_
    refine own_st (T' := T65) (f' := (mkF m 144 #[(.val (.int x0)), (.val (.ref b1)), (.val (.int (14 : Int32))), (.val (.int (1 : Int32)))] [(.int (1 : Int32)), (.int (1 : Int32))])) (fun _ kont => XS.iloadN X65.here hx rfl (hb hby at_143) rfl kont) ?_
    refine own_st (T' := T65) (f' := (mkF m 147 #[(.val (.int x0)), (.val (.ref b1)), (.val (.int (14 : Int32))), (.val (.int (1 : Int32)))] [])) (fun _ kont => XS.icmpNo X65.here hx rfl (hb hby at_144) rfl (teq (by decide : (1 : Int32) = (1 : Int32))).2 kont) ?_
    refine own_st (T' := T65) (f' := (mkF m 148 #[(.val (.int x0)), (.val (.ref b1)), (.val (.int (14 : Int32))), (.val (.int (1 : Int32)))] [(.int (1 : Int32))])) (fun _ kont => XS.iconst X65.here hx rfl (hb hby at_147) kont) ?_
    refine own_st (T' := T65) (f' := (mkF m 152 #[(.val (.int x0)), (.val (.ref b1)), (.val (.int (14 : Int32))), (.val (.int (1 : Int32)))] [(.int (1 : Int32))])) (fun _ kont => XS.goto X65.here hx rfl (pc0 := 148) (pc' := 152) rfl (hb hby at_148) (by decide) (by decide) kont) ?_
    exact own_retN X65 hx hlk (t := .boolean) hret (by simp) (hb hby at_152) ⟨rfl, N_35⟩ (by decide) (by decide)
  · skip  -- i = 15
    refine own_st (T' := T35) (f' := (mkF m 127 #[(.val (.int x0)), (.val (.ref b1)), (.val (.int (15 : Int32))), .unset] [])) (fun _ kont => XS.istoreN X35.here hx rfl (hb hby at_126) rfl (l' := #[(.val (.int x0)), (.val (.ref b1)), (.val (.int (15 : Int32))), .unset]) rfl kont) ?_
    refine own_st (T' := T35) (f' := (mkF m 128 #[(.val (.int x0)), (.val (.ref b1)), (.val (.int (15 : Int32))), .unset] [(.int (15 : Int32))])) (fun _ kont => XS.iloadN X35.here hx rfl (hb hby at_127) rfl kont) ?_
    refine own_st (T' := T35) (f' := (mkF m 131 #[(.val (.int x0)), (.val (.ref b1)), (.val (.int (15 : Int32))), .unset] [])) (fun _ kont => XS.ifNo X35.here hx rfl (hb hby at_128) rfl ((if0 _ _).trans (feq (by decide : ¬ ((15 : Int32) = (0 : Int32)))).1) kont) ?_
    refine own_st (T' := T35) (f' := (mkF m 132 #[(.val (.int x0)), (.val (.ref b1)), (.val (.int (15 : Int32))), .unset] [(.int (1 : Int32))])) (fun _ kont => XS.iconst X35.here hx rfl (hb hby at_131) kont) ?_
    refine own_st (T' := T35) (f' := (mkF m 136 #[(.val (.int x0)), (.val (.ref b1)), (.val (.int (15 : Int32))), .unset] [(.int (1 : Int32))])) (fun _ kont => XS.goto X35.here hx rfl (pc0 := 132) (pc' := 136) rfl (hb hby at_132) (by decide) (by decide) kont) ?_
    refine own_st (T' := T35) (f' := (mkF m 137 #[(.val (.int x0)), (.val (.ref b1)), (.val (.int (15 : Int32))), (.val (.int (1 : Int32)))] [])) (fun _ kont => XS.istoreN X35.here hx rfl (hb hby at_136) rfl (l' := #[(.val (.int x0)), (.val (.ref b1)), (.val (.int (15 : Int32))), (.val (.int (1 : Int32)))]) rfl kont) ?_
    refine own_st (T' := T35) (f' := (mkF m 138 #[(.val (.int x0)), (.val (.ref b1)), (.val (.int (15 : Int32))), (.val (.int (1 : Int32)))] [(.ref b1)])) (fun _ kont => XS.aloadN X35.here hx rfl (hb hby at_137) rfl rfl kont) ?_
    refine own_st (T' := T35) (f' := (mkF m 139 #[(.val (.int x0)), (.val (.ref b1)), (.val (.int (15 : Int32))), (.val (.int (1 : Int32)))] [(.int (15 : Int32)), (.ref b1)])) (fun _ kont => XS.iloadN X35.here hx rfl (hb hby at_138) rfl kont) ?_
    obtain ⟨cl66, Ar66, q66, S66, N66, H66, G66⟩ := V35
    have hin66 : ¬ ((15 : Int32) < 0 ∨ cl66.slots.size ≤ ((15 : Int32)).toNatClampNeg) := inb_of S66 ⟨by decide, by decide⟩
    refine own_st (T' := T35) (f' := (mkF m 140 #[(.val (.int x0)), (.val (.ref b1)), (.val (.int (15 : Int32))), (.val (.int (1 : Int32)))] [(.ref s_Measure_PRES_100)])) (fun _ kont => X35.aaload hx (j := (15 : Int32)) (v := (.ref s_Measure_PRES_100)) (by rw [e35]; exact Ar66.1) (State.isArrayOf_alike hZ.alike Ar66.2.1) rfl Ar66.2.2 hin66 (Has.at H66 hin66 rfl) (g := (mkF m 139 #[(.val (.int x0)), (.val (.ref b1)), (.val (.int (15 : Int32))), (.val (.int (1 : Int32)))] [(.int (15 : Int32)), (.ref b1)])) rfl rfl (hb hby at_139) _ kont) ?_
    obtain ⟨v67, T67, L67, hQ67, X67, st67⟩ := own_callV X35 hx hZ e35 hown (hw _ (List.mem_of_getElem? (i := 39) rfl)) (hw _ (List.mem_of_getElem? (i := 40) rfl)) (hw _ (List.mem_of_getElem? (i := 42) rfl)) (hw _ (List.mem_of_getElem? (i := 41) rfl)) (by decide) (b := s_Measure_PRES_100) (E_Measure_PRES_100.ext EX35) (hw _ (List.mem_of_getElem? (i := 43) rfl)) (hw _ (List.mem_of_getElem? (i := 3) rfl)) (own_k1_2 l Z a0 hw s_Measure_PRES_100 s_Kind_MEAN s_Kind_TOPICS h35 (F_Measure_PRES_100_kind.ext EX35) (S_Kind_TOPICS.ext EX35)) (g := (mkF m 140 #[(.val (.int x0)), (.val (.ref b1)), (.val (.int (15 : Int32))), (.val (.int (1 : Int32)))] [(.ref s_Measure_PRES_100)])) rfl (by rw [hml]; rfl) rfl (argsL := []) (rest := []) rfl (lenOf own_pd0 rfl) rfl (hb hby at_140) (Nat.le_of_ble_eq_true rfl) (Nat.le_of_ble_eq_true rfl) (Nat.le_of_ble_eq_true rfl) (Nat.le_of_ble_eq_true rfl)
    obtain ⟨rfl, rfl, e67⟩ := hQ67
    rw [List.append_nil] at X67
    rw [if_neg neMT] at st67
    refine own_st (T' := T67) (f' := (mkF m 143 #[(.val (.int x0)), (.val (.ref b1)), (.val (.int (15 : Int32))), (.val (.int (1 : Int32)))] [(.int (1 : Int32))])) st67 ?_
    refine own_st (T' := T67) (f' := (mkF m 144 #[(.val (.int x0)), (.val (.ref b1)), (.val (.int (15 : Int32))), (.val (.int (1 : Int32)))] [(.int (1 : Int32)), (.int (1 : Int32))])) (fun _ kont => XS.iloadN X67.here hx rfl (hb hby at_143) rfl kont) ?_
    refine own_st (T' := T67) (f' := (mkF m 147 #[(.val (.int x0)), (.val (.ref b1)), (.val (.int (15 : Int32))), (.val (.int (1 : Int32)))] [])) (fun _ kont => XS.icmpNo X67.here hx rfl (hb hby at_144) rfl (teq (by decide : (1 : Int32) = (1 : Int32))).2 kont) ?_
    refine own_st (T' := T67) (f' := (mkF m 148 #[(.val (.int x0)), (.val (.ref b1)), (.val (.int (15 : Int32))), (.val (.int (1 : Int32)))] [(.int (1 : Int32))])) (fun _ kont => XS.iconst X67.here hx rfl (hb hby at_147) kont) ?_
    refine own_st (T' := T67) (f' := (mkF m 152 #[(.val (.int x0)), (.val (.ref b1)), (.val (.int (15 : Int32))), (.val (.int (1 : Int32)))] [(.int (1 : Int32))])) (fun _ kont => XS.goto X67.here hx rfl (pc0 := 148) (pc' := 152) rfl (hb hby at_148) (by decide) (by decide) kont) ?_
    exact own_retN X67 hx hlk (t := .boolean) hret (by simp) (hb hby at_152) ⟨rfl, N_35⟩ (by decide) (by decide)
  · skip  -- i = 16
    refine own_st (T' := T35) (f' := (mkF m 127 #[(.val (.int x0)), (.val (.ref b1)), (.val (.int (16 : Int32))), .unset] [])) (fun _ kont => XS.istoreN X35.here hx rfl (hb hby at_126) rfl (l' := #[(.val (.int x0)), (.val (.ref b1)), (.val (.int (16 : Int32))), .unset]) rfl kont) ?_
    refine own_st (T' := T35) (f' := (mkF m 128 #[(.val (.int x0)), (.val (.ref b1)), (.val (.int (16 : Int32))), .unset] [(.int (16 : Int32))])) (fun _ kont => XS.iloadN X35.here hx rfl (hb hby at_127) rfl kont) ?_
    refine own_st (T' := T35) (f' := (mkF m 131 #[(.val (.int x0)), (.val (.ref b1)), (.val (.int (16 : Int32))), .unset] [])) (fun _ kont => XS.ifNo X35.here hx rfl (hb hby at_128) rfl ((if0 _ _).trans (feq (by decide : ¬ ((16 : Int32) = (0 : Int32)))).1) kont) ?_
    refine own_st (T' := T35) (f' := (mkF m 132 #[(.val (.int x0)), (.val (.ref b1)), (.val (.int (16 : Int32))), .unset] [(.int (1 : Int32))])) (fun _ kont => XS.iconst X35.here hx rfl (hb hby at_131) kont) ?_
    refine own_st (T' := T35) (f' := (mkF m 136 #[(.val (.int x0)), (.val (.ref b1)), (.val (.int (16 : Int32))), .unset] [(.int (1 : Int32))])) (fun _ kont => XS.goto X35.here hx rfl (pc0 := 132) (pc' := 136) rfl (hb hby at_132) (by decide) (by decide) kont) ?_
    refine own_st (T' := T35) (f' := (mkF m 137 #[(.val (.int x0)), (.val (.ref b1)), (.val (.int (16 : Int32))), (.val (.int (1 : Int32)))] [])) (fun _ kont => XS.istoreN X35.here hx rfl (hb hby at_136) rfl (l' := #[(.val (.int x0)), (.val (.ref b1)), (.val (.int (16 : Int32))), (.val (.int (1 : Int32)))]) rfl kont) ?_
    refine own_st (T' := T35) (f' := (mkF m 138 #[(.val (.int x0)), (.val (.ref b1)), (.val (.int (16 : Int32))), (.val (.int (1 : Int32)))] [(.ref b1)])) (fun _ kont => XS.aloadN X35.here hx rfl (hb hby at_137) rfl rfl kont) ?_
    refine own_st (T' := T35) (f' := (mkF m 139 #[(.val (.int x0)), (.val (.ref b1)), (.val (.int (16 : Int32))), (.val (.int (1 : Int32)))] [(.int (16 : Int32)), (.ref b1)])) (fun _ kont => XS.iloadN X35.here hx rfl (hb hby at_138) rfl kont) ?_
    obtain ⟨cl68, Ar68, q68, S68, N68, H68, G68⟩ := V35
    have hin68 : ¬ ((16 : Int32) < 0 ∨ cl68.slots.size ≤ ((16 : Int32)).toNatClampNeg) := inb_of S68 ⟨by decide, by decide⟩
    refine own_st (T' := T35) (f' := (mkF m 140 #[(.val (.int x0)), (.val (.ref b1)), (.val (.int (16 : Int32))), (.val (.int (1 : Int32)))] [(.ref s_Measure_PRES_1000)])) (fun _ kont => X35.aaload hx (j := (16 : Int32)) (v := (.ref s_Measure_PRES_1000)) (by rw [e35]; exact Ar68.1) (State.isArrayOf_alike hZ.alike Ar68.2.1) rfl Ar68.2.2 hin68 (Has.at H68 hin68 rfl) (g := (mkF m 139 #[(.val (.int x0)), (.val (.ref b1)), (.val (.int (16 : Int32))), (.val (.int (1 : Int32)))] [(.int (16 : Int32)), (.ref b1)])) rfl rfl (hb hby at_139) _ kont) ?_
    obtain ⟨v69, T69, L69, hQ69, X69, st69⟩ := own_callV X35 hx hZ e35 hown (hw _ (List.mem_of_getElem? (i := 39) rfl)) (hw _ (List.mem_of_getElem? (i := 40) rfl)) (hw _ (List.mem_of_getElem? (i := 42) rfl)) (hw _ (List.mem_of_getElem? (i := 41) rfl)) (by decide) (b := s_Measure_PRES_1000) (E_Measure_PRES_1000.ext EX35) (hw _ (List.mem_of_getElem? (i := 43) rfl)) (hw _ (List.mem_of_getElem? (i := 3) rfl)) (own_k1_2 l Z a0 hw s_Measure_PRES_1000 s_Kind_MEAN s_Kind_TOPICS h35 (F_Measure_PRES_1000_kind.ext EX35) (S_Kind_TOPICS.ext EX35)) (g := (mkF m 140 #[(.val (.int x0)), (.val (.ref b1)), (.val (.int (16 : Int32))), (.val (.int (1 : Int32)))] [(.ref s_Measure_PRES_1000)])) rfl (by rw [hml]; rfl) rfl (argsL := []) (rest := []) rfl (lenOf own_pd0 rfl) rfl (hb hby at_140) (Nat.le_of_ble_eq_true rfl) (Nat.le_of_ble_eq_true rfl) (Nat.le_of_ble_eq_true rfl) (Nat.le_of_ble_eq_true rfl)
    obtain ⟨rfl, rfl, e69⟩ := hQ69
    rw [List.append_nil] at X69
    rw [if_neg neMT] at st69
    refine own_st (T' := T69) (f' := (mkF m 143 #[(.val (.int x0)), (.val (.ref b1)), (.val (.int (16 : Int32))), (.val (.int (1 : Int32)))] [(.int (1 : Int32))])) st69 ?_
    refine own_st (T' := T69) (f' := (mkF m 144 #[(.val (.int x0)), (.val (.ref b1)), (.val (.int (16 : Int32))), (.val (.int (1 : Int32)))] [(.int (1 : Int32)), (.int (1 : Int32))])) (fun _ kont => XS.iloadN X69.here hx rfl (hb hby at_143) rfl kont) ?_
    refine own_st (T' := T69) (f' := (mkF m 147 #[(.val (.int x0)), (.val (.ref b1)), (.val (.int (16 : Int32))), (.val (.int (1 : Int32)))] [])) (fun _ kont => XS.icmpNo X69.here hx rfl (hb hby at_144) rfl (teq (by decide : (1 : Int32) = (1 : Int32))).2 kont) ?_
    refine own_st (T' := T69) (f' := (mkF m 148 #[(.val (.int x0)), (.val (.ref b1)), (.val (.int (16 : Int32))), (.val (.int (1 : Int32)))] [(.int (1 : Int32))])) (fun _ kont => XS.iconst X69.here hx rfl (hb hby at_147) kont) ?_
    refine own_st (T' := T69) (f' := (mkF m 152 #[(.val (.int x0)), (.val (.ref b1)), (.val (.int (16 : Int32))), (.val (.int (1 : Int32)))] [(.int (1 : Int32))])) (fun _ kont => XS.goto X69.here hx rfl (pc0 := 148) (pc' := 152) rfl (hb hby at_148) (by decide) (by decide) kont) ?_
    exact own_retN X69 hx hlk (t := .boolean) hret (by simp) (hb hby at_152) ⟨rfl, N_35⟩ (by decide) (by decide)
set_option maxRecDepth 65536 in
set_option maxHeartbeats 40000000 in
theorem own_comes {Post : Tables → Env → Array Value → State → Outcome → State → Prop} (hpost : ∀ tb e args s v u, (limb_1_1.after args s (.returned v) u = true ∧ limb_1_2.after args s (.returned v) u = true ∧ True) → FrameEnd s (.returned v) u (Jvm.fieldLocs frame_1_writes args s ++ Jvm.arrayLocs frame_1_arrays args s ++ Jvm.staticLocs frame_1_statics s) 16 128 → Post tb e args s (.returned v) u) :
    ArmFor flags0 classFile x code maxLocals ret World_1 tables_1 room_1 Calls_1 rest_1 Pre_1 Post := by
  intro l hfl _ _ p e ha hc hk s m args below hf hA hF happ hP
  obtain ⟨hcalls, hrest, hpre⟩ := hP
  obtain ⟨-, -, -, hnamed, -, -, -, hat⟩ := (Spec.applies_iff hf).mp happ
  obtain ⟨hg, hn⟩ := and_e (Cond.before_iff.mp (show (Jvm.Cond.and given_1 narrow_1).before args s = true from hpre))
  obtain ⟨g0, g0'⟩ := and_e hg
  obtain ⟨w0, rfl⟩ : ∃ w0 : Value, args = #[w0] := by
    have hs : args.size = 1 := by simpa [Cond.value, given_1] using g0
    obtain ⟨L⟩ := args
    match L, hs with
    | [w0], _ => exact ⟨w0, rfl⟩
  have hw := fun d (hd : d ∈ tables_1) => atoms_spec (ws := Jvm.Cond.code x code maxLocals ret :: tables_1) hat d (List.mem_cons_of_mem _ hd)
  have hfit : Fit s := fun {y c} hc i hi => by
    obtain ⟨ha, rfl⟩ := Array.getElem?_eq_some_iff.mp hc
    have q := List.all_eq_true.mp ((Array.all_eq_true_iff_forall_mem.mp hF) _ (Array.getElem_mem ha)) i (List.mem_range.mpr hi)
    simpa [Array.getElem?_eq_getElem hi] using q
  obtain ⟨i0, ei0⟩ := is_v g0'
  obtain rfl : w0 = (.int i0) := Option.some.inj ei0
  obtain ⟨n0, n0'⟩ := and_e hn
  obtain ⟨n1, n1'⟩ := and_e n0'
  obtain ⟨n2, n2'⟩ := and_e n1'
  obtain ⟨n3, n3'⟩ := and_e n2'
  obtain ⟨n4, n4'⟩ := and_e n3'
  obtain ⟨n5, n5'⟩ := and_e n4'
  obtain ⟨n6, n6'⟩ := and_e n5'
  obtain ⟨n7, n7'⟩ := and_e n6'
  obtain ⟨n8, n8'⟩ := and_e n7'
  obtain ⟨n9, n9'⟩ := and_e n8'
  obtain ⟨n10, n10'⟩ := and_e n9'
  obtain ⟨n11, n11'⟩ := and_e n10'
  obtain ⟨n12, n12'⟩ := and_e n11'
  obtain ⟨n13, n13'⟩ := and_e n12'
  obtain ⟨n14, n14'⟩ := and_e n13'
  obtain ⟨n15, n15'⟩ := and_e n14'
  obtain ⟨n16, n16'⟩ := and_e n15'
  obtain ⟨n17, n17'⟩ := and_e n16'
  obtain ⟨n18, n18'⟩ := and_e n17'
  obtain ⟨n19, n19'⟩ := and_e n18'
  obtain ⟨n20, n20'⟩ := and_e n19'
  obtain ⟨n21, n21'⟩ := and_e n20'
  obtain ⟨n22, n22'⟩ := and_e n21'
  obtain ⟨n23, n23'⟩ := and_e n22'
  obtain ⟨n24, n24'⟩ := and_e n23'
  obtain ⟨n25, n25'⟩ := and_e n24'
  obtain ⟨n26, n26'⟩ := and_e n25'
  obtain ⟨n27, n27'⟩ := and_e n26'
  obtain ⟨n28, n28'⟩ := and_e n27'
  obtain ⟨n29, n29'⟩ := and_e n28'
  obtain ⟨n30, n30'⟩ := and_e n29'
  obtain ⟨n31, n31'⟩ := and_e n30'
  obtain ⟨n32, n32'⟩ := and_e n31'
  obtain ⟨n33, n33'⟩ := and_e n32'
  obtain ⟨n34, n34'⟩ := and_e n33'
  obtain ⟨n35, n35'⟩ := and_e n34'
  obtain ⟨n36, n36'⟩ := and_e n35'
  obtain ⟨n37, n37'⟩ := and_e n36'
  obtain ⟨n38, n38'⟩ := and_e n37'
  obtain ⟨s_Measure_NUM_Q, v_Measure_NUM_Q⟩ := exa_v n0
  have E_Measure_NUM_Q : Exa s s.heap s_Measure_NUM_Q "com/example/prior_art_search/priorartsearch/eval/Measure" := Exa.start v_Measure_NUM_Q n0
  have S_Measure_NUM_Q : Sta s s.heap "com/example/prior_art_search/priorartsearch/eval/Measure" "NUM_Q" "Lcom/example/prior_art_search/priorartsearch/eval/Measure;" (.ref s_Measure_NUM_Q) := Sta.start v_Measure_NUM_Q (Or.inr ⟨(hw _ (List.mem_of_getElem? (i := 3) rfl)), (hw _ (List.mem_of_getElem? (i := 4) rfl))⟩)
  obtain ⟨s_Measure_NUM_RET, v_Measure_NUM_RET⟩ := exa_v n1
  have E_Measure_NUM_RET : Exa s s.heap s_Measure_NUM_RET "com/example/prior_art_search/priorartsearch/eval/Measure" := Exa.start v_Measure_NUM_RET n1
  have S_Measure_NUM_RET : Sta s s.heap "com/example/prior_art_search/priorartsearch/eval/Measure" "NUM_RET" "Lcom/example/prior_art_search/priorartsearch/eval/Measure;" (.ref s_Measure_NUM_RET) := Sta.start v_Measure_NUM_RET (Or.inr ⟨(hw _ (List.mem_of_getElem? (i := 3) rfl)), (hw _ (List.mem_of_getElem? (i := 7) rfl))⟩)
  obtain ⟨s_Measure_NUM_REL, v_Measure_NUM_REL⟩ := exa_v n2
  have E_Measure_NUM_REL : Exa s s.heap s_Measure_NUM_REL "com/example/prior_art_search/priorartsearch/eval/Measure" := Exa.start v_Measure_NUM_REL n2
  have S_Measure_NUM_REL : Sta s s.heap "com/example/prior_art_search/priorartsearch/eval/Measure" "NUM_REL" "Lcom/example/prior_art_search/priorartsearch/eval/Measure;" (.ref s_Measure_NUM_REL) := Sta.start v_Measure_NUM_REL (Or.inr ⟨(hw _ (List.mem_of_getElem? (i := 3) rfl)), (hw _ (List.mem_of_getElem? (i := 9) rfl))⟩)
  obtain ⟨s_Measure_NUM_REL_RET, v_Measure_NUM_REL_RET⟩ := exa_v n3
  have E_Measure_NUM_REL_RET : Exa s s.heap s_Measure_NUM_REL_RET "com/example/prior_art_search/priorartsearch/eval/Measure" := Exa.start v_Measure_NUM_REL_RET n3
  have S_Measure_NUM_REL_RET : Sta s s.heap "com/example/prior_art_search/priorartsearch/eval/Measure" "NUM_REL_RET" "Lcom/example/prior_art_search/priorartsearch/eval/Measure;" (.ref s_Measure_NUM_REL_RET) := Sta.start v_Measure_NUM_REL_RET (Or.inr ⟨(hw _ (List.mem_of_getElem? (i := 3) rfl)), (hw _ (List.mem_of_getElem? (i := 11) rfl))⟩)
  obtain ⟨s_Measure_MAP, v_Measure_MAP⟩ := exa_v n4
  have E_Measure_MAP : Exa s s.heap s_Measure_MAP "com/example/prior_art_search/priorartsearch/eval/Measure" := Exa.start v_Measure_MAP n4
  have S_Measure_MAP : Sta s s.heap "com/example/prior_art_search/priorartsearch/eval/Measure" "MAP" "Lcom/example/prior_art_search/priorartsearch/eval/Measure;" (.ref s_Measure_MAP) := Sta.start v_Measure_MAP (Or.inr ⟨(hw _ (List.mem_of_getElem? (i := 3) rfl)), (hw _ (List.mem_of_getElem? (i := 13) rfl))⟩)
  obtain ⟨s_Measure_RECIP_RANK, v_Measure_RECIP_RANK⟩ := exa_v n5
  have E_Measure_RECIP_RANK : Exa s s.heap s_Measure_RECIP_RANK "com/example/prior_art_search/priorartsearch/eval/Measure" := Exa.start v_Measure_RECIP_RANK n5
  have S_Measure_RECIP_RANK : Sta s s.heap "com/example/prior_art_search/priorartsearch/eval/Measure" "RECIP_RANK" "Lcom/example/prior_art_search/priorartsearch/eval/Measure;" (.ref s_Measure_RECIP_RANK) := Sta.start v_Measure_RECIP_RANK (Or.inr ⟨(hw _ (List.mem_of_getElem? (i := 3) rfl)), (hw _ (List.mem_of_getElem? (i := 15) rfl))⟩)
  obtain ⟨s_Measure_BPREF, v_Measure_BPREF⟩ := exa_v n6
  have E_Measure_BPREF : Exa s s.heap s_Measure_BPREF "com/example/prior_art_search/priorartsearch/eval/Measure" := Exa.start v_Measure_BPREF n6
  have S_Measure_BPREF : Sta s s.heap "com/example/prior_art_search/priorartsearch/eval/Measure" "BPREF" "Lcom/example/prior_art_search/priorartsearch/eval/Measure;" (.ref s_Measure_BPREF) := Sta.start v_Measure_BPREF (Or.inr ⟨(hw _ (List.mem_of_getElem? (i := 3) rfl)), (hw _ (List.mem_of_getElem? (i := 17) rfl))⟩)
  obtain ⟨s_Measure_P_5, v_Measure_P_5⟩ := exa_v n7
  have E_Measure_P_5 : Exa s s.heap s_Measure_P_5 "com/example/prior_art_search/priorartsearch/eval/Measure" := Exa.start v_Measure_P_5 n7
  have S_Measure_P_5 : Sta s s.heap "com/example/prior_art_search/priorartsearch/eval/Measure" "P_5" "Lcom/example/prior_art_search/priorartsearch/eval/Measure;" (.ref s_Measure_P_5) := Sta.start v_Measure_P_5 (Or.inr ⟨(hw _ (List.mem_of_getElem? (i := 3) rfl)), (hw _ (List.mem_of_getElem? (i := 19) rfl))⟩)
  obtain ⟨s_Measure_P_10, v_Measure_P_10⟩ := exa_v n8
  have E_Measure_P_10 : Exa s s.heap s_Measure_P_10 "com/example/prior_art_search/priorartsearch/eval/Measure" := Exa.start v_Measure_P_10 n8
  have S_Measure_P_10 : Sta s s.heap "com/example/prior_art_search/priorartsearch/eval/Measure" "P_10" "Lcom/example/prior_art_search/priorartsearch/eval/Measure;" (.ref s_Measure_P_10) := Sta.start v_Measure_P_10 (Or.inr ⟨(hw _ (List.mem_of_getElem? (i := 3) rfl)), (hw _ (List.mem_of_getElem? (i := 21) rfl))⟩)
  obtain ⟨s_Measure_P_100, v_Measure_P_100⟩ := exa_v n9
  have E_Measure_P_100 : Exa s s.heap s_Measure_P_100 "com/example/prior_art_search/priorartsearch/eval/Measure" := Exa.start v_Measure_P_100 n9
  have S_Measure_P_100 : Sta s s.heap "com/example/prior_art_search/priorartsearch/eval/Measure" "P_100" "Lcom/example/prior_art_search/priorartsearch/eval/Measure;" (.ref s_Measure_P_100) := Sta.start v_Measure_P_100 (Or.inr ⟨(hw _ (List.mem_of_getElem? (i := 3) rfl)), (hw _ (List.mem_of_getElem? (i := 23) rfl))⟩)
  obtain ⟨s_Measure_RECALL_5, v_Measure_RECALL_5⟩ := exa_v n10
  have E_Measure_RECALL_5 : Exa s s.heap s_Measure_RECALL_5 "com/example/prior_art_search/priorartsearch/eval/Measure" := Exa.start v_Measure_RECALL_5 n10
  have S_Measure_RECALL_5 : Sta s s.heap "com/example/prior_art_search/priorartsearch/eval/Measure" "RECALL_5" "Lcom/example/prior_art_search/priorartsearch/eval/Measure;" (.ref s_Measure_RECALL_5) := Sta.start v_Measure_RECALL_5 (Or.inr ⟨(hw _ (List.mem_of_getElem? (i := 3) rfl)), (hw _ (List.mem_of_getElem? (i := 25) rfl))⟩)
  obtain ⟨s_Measure_RECALL_10, v_Measure_RECALL_10⟩ := exa_v n11
  have E_Measure_RECALL_10 : Exa s s.heap s_Measure_RECALL_10 "com/example/prior_art_search/priorartsearch/eval/Measure" := Exa.start v_Measure_RECALL_10 n11
  have S_Measure_RECALL_10 : Sta s s.heap "com/example/prior_art_search/priorartsearch/eval/Measure" "RECALL_10" "Lcom/example/prior_art_search/priorartsearch/eval/Measure;" (.ref s_Measure_RECALL_10) := Sta.start v_Measure_RECALL_10 (Or.inr ⟨(hw _ (List.mem_of_getElem? (i := 3) rfl)), (hw _ (List.mem_of_getElem? (i := 27) rfl))⟩)
  obtain ⟨s_Measure_RECALL_100, v_Measure_RECALL_100⟩ := exa_v n12
  have E_Measure_RECALL_100 : Exa s s.heap s_Measure_RECALL_100 "com/example/prior_art_search/priorartsearch/eval/Measure" := Exa.start v_Measure_RECALL_100 n12
  have S_Measure_RECALL_100 : Sta s s.heap "com/example/prior_art_search/priorartsearch/eval/Measure" "RECALL_100" "Lcom/example/prior_art_search/priorartsearch/eval/Measure;" (.ref s_Measure_RECALL_100) := Sta.start v_Measure_RECALL_100 (Or.inr ⟨(hw _ (List.mem_of_getElem? (i := 3) rfl)), (hw _ (List.mem_of_getElem? (i := 29) rfl))⟩)
  obtain ⟨s_Measure_RECALL_1000, v_Measure_RECALL_1000⟩ := exa_v n13
  have E_Measure_RECALL_1000 : Exa s s.heap s_Measure_RECALL_1000 "com/example/prior_art_search/priorartsearch/eval/Measure" := Exa.start v_Measure_RECALL_1000 n13
  have S_Measure_RECALL_1000 : Sta s s.heap "com/example/prior_art_search/priorartsearch/eval/Measure" "RECALL_1000" "Lcom/example/prior_art_search/priorartsearch/eval/Measure;" (.ref s_Measure_RECALL_1000) := Sta.start v_Measure_RECALL_1000 (Or.inr ⟨(hw _ (List.mem_of_getElem? (i := 3) rfl)), (hw _ (List.mem_of_getElem? (i := 31) rfl))⟩)
  obtain ⟨s_Measure_NDCG, v_Measure_NDCG⟩ := exa_v n14
  have E_Measure_NDCG : Exa s s.heap s_Measure_NDCG "com/example/prior_art_search/priorartsearch/eval/Measure" := Exa.start v_Measure_NDCG n14
  have S_Measure_NDCG : Sta s s.heap "com/example/prior_art_search/priorartsearch/eval/Measure" "NDCG" "Lcom/example/prior_art_search/priorartsearch/eval/Measure;" (.ref s_Measure_NDCG) := Sta.start v_Measure_NDCG (Or.inr ⟨(hw _ (List.mem_of_getElem? (i := 3) rfl)), (hw _ (List.mem_of_getElem? (i := 33) rfl))⟩)
  obtain ⟨s_Measure_PRES_100, v_Measure_PRES_100⟩ := exa_v n15
  have E_Measure_PRES_100 : Exa s s.heap s_Measure_PRES_100 "com/example/prior_art_search/priorartsearch/eval/Measure" := Exa.start v_Measure_PRES_100 n15
  have S_Measure_PRES_100 : Sta s s.heap "com/example/prior_art_search/priorartsearch/eval/Measure" "PRES_100" "Lcom/example/prior_art_search/priorartsearch/eval/Measure;" (.ref s_Measure_PRES_100) := Sta.start v_Measure_PRES_100 (Or.inr ⟨(hw _ (List.mem_of_getElem? (i := 3) rfl)), (hw _ (List.mem_of_getElem? (i := 35) rfl))⟩)
  obtain ⟨s_Measure_PRES_1000, v_Measure_PRES_1000⟩ := exa_v n16
  have E_Measure_PRES_1000 : Exa s s.heap s_Measure_PRES_1000 "com/example/prior_art_search/priorartsearch/eval/Measure" := Exa.start v_Measure_PRES_1000 n16
  have S_Measure_PRES_1000 : Sta s s.heap "com/example/prior_art_search/priorartsearch/eval/Measure" "PRES_1000" "Lcom/example/prior_art_search/priorartsearch/eval/Measure;" (.ref s_Measure_PRES_1000) := Sta.start v_Measure_PRES_1000 (Or.inr ⟨(hw _ (List.mem_of_getElem? (i := 3) rfl)), (hw _ (List.mem_of_getElem? (i := 37) rfl))⟩)
  obtain ⟨s_Kind_TOPICS, v_Kind_TOPICS⟩ := exa_v n17
  have E_Kind_TOPICS : Exa s s.heap s_Kind_TOPICS "com/example/prior_art_search/priorartsearch/eval/Measure$Kind" := Exa.start v_Kind_TOPICS n17
  have S_Kind_TOPICS : Sta s s.heap "com/example/prior_art_search/priorartsearch/eval/Measure$Kind" "TOPICS" "Lcom/example/prior_art_search/priorartsearch/eval/Measure$Kind;" (.ref s_Kind_TOPICS) := Sta.start v_Kind_TOPICS (Or.inr ⟨(hw _ (List.mem_of_getElem? (i := 46) rfl)), (hw _ (List.mem_of_getElem? (i := 47) rfl))⟩)
  have F_Measure_NUM_Q_kind : Fld s s.heap s_Measure_NUM_Q "com/example/prior_art_search/priorartsearch/eval/Measure" "kind" "Lcom/example/prior_art_search/priorartsearch/eval/Measure$Kind;" (.ref s_Kind_TOPICS) := Fld.start ((fld_at v_Measure_NUM_Q).symm.trans (own_eqR n18 v_Kind_TOPICS))
  obtain ⟨s_Kind_COUNT, v_Kind_COUNT⟩ := exa_v n19
  have E_Kind_COUNT : Exa s s.heap s_Kind_COUNT "com/example/prior_art_search/priorartsearch/eval/Measure$Kind" := Exa.start v_Kind_COUNT n19
  have S_Kind_COUNT : Sta s s.heap "com/example/prior_art_search/priorartsearch/eval/Measure$Kind" "COUNT" "Lcom/example/prior_art_search/priorartsearch/eval/Measure$Kind;" (.ref s_Kind_COUNT) := Sta.start v_Kind_COUNT (Or.inr ⟨(hw _ (List.mem_of_getElem? (i := 46) rfl)), (hw _ (List.mem_of_getElem? (i := 49) rfl))⟩)
  have F_Measure_NUM_REL_RET_kind : Fld s s.heap s_Measure_NUM_REL_RET "com/example/prior_art_search/priorartsearch/eval/Measure" "kind" "Lcom/example/prior_art_search/priorartsearch/eval/Measure$Kind;" (.ref s_Kind_COUNT) := Fld.start ((fld_at v_Measure_NUM_REL_RET).symm.trans (own_eqR n20 v_Kind_COUNT))
  have F_Kind_COUNT_ordinal : Fld s s.heap s_Kind_COUNT "java/lang/Enum" "ordinal" "I" (.int (1 : Int32)) := Fld.start ((fld_at v_Kind_COUNT).symm.trans (own_eqI n21))
  have F_Kind_TOPICS_ordinal : Fld s s.heap s_Kind_TOPICS "java/lang/Enum" "ordinal" "I" (.int (0 : Int32)) := Fld.start ((fld_at v_Kind_TOPICS).symm.trans (own_eqI n22))
  obtain ⟨s_Kind_MEAN, v_Kind_MEAN⟩ := exa_v n23
  have E_Kind_MEAN : Exa s s.heap s_Kind_MEAN "com/example/prior_art_search/priorartsearch/eval/Measure$Kind" := Exa.start v_Kind_MEAN n23
  have S_Kind_MEAN : Sta s s.heap "com/example/prior_art_search/priorartsearch/eval/Measure$Kind" "MEAN" "Lcom/example/prior_art_search/priorartsearch/eval/Measure$Kind;" (.ref s_Kind_MEAN) := Sta.start v_Kind_MEAN (Or.inr ⟨(hw _ (List.mem_of_getElem? (i := 46) rfl)), (hw _ (List.mem_of_getElem? (i := 50) rfl))⟩)
  have F_Measure_P_10_kind : Fld s s.heap s_Measure_P_10 "com/example/prior_art_search/priorartsearch/eval/Measure" "kind" "Lcom/example/prior_art_search/priorartsearch/eval/Measure$Kind;" (.ref s_Kind_MEAN) := Fld.start ((fld_at v_Measure_P_10).symm.trans (own_eqR n24 v_Kind_MEAN))
  have F_Kind_MEAN_ordinal : Fld s s.heap s_Kind_MEAN "java/lang/Enum" "ordinal" "I" (.int (2 : Int32)) := Fld.start ((fld_at v_Kind_MEAN).symm.trans (own_eqI n25))
  have F_Measure_P_100_kind : Fld s s.heap s_Measure_P_100 "com/example/prior_art_search/priorartsearch/eval/Measure" "kind" "Lcom/example/prior_art_search/priorartsearch/eval/Measure$Kind;" (.ref s_Kind_MEAN) := Fld.start ((fld_at v_Measure_P_100).symm.trans (own_eqR n26 v_Kind_MEAN))
  have F_Measure_BPREF_kind : Fld s s.heap s_Measure_BPREF "com/example/prior_art_search/priorartsearch/eval/Measure" "kind" "Lcom/example/prior_art_search/priorartsearch/eval/Measure$Kind;" (.ref s_Kind_MEAN) := Fld.start ((fld_at v_Measure_BPREF).symm.trans (own_eqR n27 v_Kind_MEAN))
  have F_Measure_P_5_kind : Fld s s.heap s_Measure_P_5 "com/example/prior_art_search/priorartsearch/eval/Measure" "kind" "Lcom/example/prior_art_search/priorartsearch/eval/Measure$Kind;" (.ref s_Kind_MEAN) := Fld.start ((fld_at v_Measure_P_5).symm.trans (own_eqR n28 v_Kind_MEAN))
  have F_Measure_NUM_REL_kind : Fld s s.heap s_Measure_NUM_REL "com/example/prior_art_search/priorartsearch/eval/Measure" "kind" "Lcom/example/prior_art_search/priorartsearch/eval/Measure$Kind;" (.ref s_Kind_COUNT) := Fld.start ((fld_at v_Measure_NUM_REL).symm.trans (own_eqR n29 v_Kind_COUNT))
  have F_Measure_RECALL_10_kind : Fld s s.heap s_Measure_RECALL_10 "com/example/prior_art_search/priorartsearch/eval/Measure" "kind" "Lcom/example/prior_art_search/priorartsearch/eval/Measure$Kind;" (.ref s_Kind_MEAN) := Fld.start ((fld_at v_Measure_RECALL_10).symm.trans (own_eqR n30 v_Kind_MEAN))
  have F_Measure_NUM_RET_kind : Fld s s.heap s_Measure_NUM_RET "com/example/prior_art_search/priorartsearch/eval/Measure" "kind" "Lcom/example/prior_art_search/priorartsearch/eval/Measure$Kind;" (.ref s_Kind_COUNT) := Fld.start ((fld_at v_Measure_NUM_RET).symm.trans (own_eqR n31 v_Kind_COUNT))
  have F_Measure_RECALL_1000_kind : Fld s s.heap s_Measure_RECALL_1000 "com/example/prior_art_search/priorartsearch/eval/Measure" "kind" "Lcom/example/prior_art_search/priorartsearch/eval/Measure$Kind;" (.ref s_Kind_MEAN) := Fld.start ((fld_at v_Measure_RECALL_1000).symm.trans (own_eqR n32 v_Kind_MEAN))
  have F_Measure_MAP_kind : Fld s s.heap s_Measure_MAP "com/example/prior_art_search/priorartsearch/eval/Measure" "kind" "Lcom/example/prior_art_search/priorartsearch/eval/Measure$Kind;" (.ref s_Kind_MEAN) := Fld.start ((fld_at v_Measure_MAP).symm.trans (own_eqR n33 v_Kind_MEAN))
  have F_Measure_RECALL_5_kind : Fld s s.heap s_Measure_RECALL_5 "com/example/prior_art_search/priorartsearch/eval/Measure" "kind" "Lcom/example/prior_art_search/priorartsearch/eval/Measure$Kind;" (.ref s_Kind_MEAN) := Fld.start ((fld_at v_Measure_RECALL_5).symm.trans (own_eqR n34 v_Kind_MEAN))
  have F_Measure_PRES_1000_kind : Fld s s.heap s_Measure_PRES_1000 "com/example/prior_art_search/priorartsearch/eval/Measure" "kind" "Lcom/example/prior_art_search/priorartsearch/eval/Measure$Kind;" (.ref s_Kind_MEAN) := Fld.start ((fld_at v_Measure_PRES_1000).symm.trans (own_eqR n35 v_Kind_MEAN))
  have F_Measure_PRES_100_kind : Fld s s.heap s_Measure_PRES_100 "com/example/prior_art_search/priorartsearch/eval/Measure" "kind" "Lcom/example/prior_art_search/priorartsearch/eval/Measure$Kind;" (.ref s_Kind_MEAN) := Fld.start ((fld_at v_Measure_PRES_100).symm.trans (own_eqR n36 v_Kind_MEAN))
  have F_Measure_RECIP_RANK_kind : Fld s s.heap s_Measure_RECIP_RANK "com/example/prior_art_search/priorartsearch/eval/Measure" "kind" "Lcom/example/prior_art_search/priorartsearch/eval/Measure$Kind;" (.ref s_Kind_MEAN) := Fld.start ((fld_at v_Measure_RECIP_RANK).symm.trans (own_eqR n37 v_Kind_MEAN))
  have F_Measure_NDCG_kind : Fld s s.heap s_Measure_NDCG "com/example/prior_art_search/priorartsearch/eval/Measure" "kind" "Lcom/example/prior_art_search/priorartsearch/eval/Measure$Kind;" (.ref s_Kind_MEAN) := Fld.start ((fld_at v_Measure_NDCG).symm.trans (own_eqR n38 v_Kind_MEAN))
  have F_Measure_RECALL_100_kind : Fld s s.heap s_Measure_RECALL_100 "com/example/prior_art_search/priorartsearch/eval/Measure" "kind" "Lcom/example/prior_art_search/priorartsearch/eval/Measure$Kind;" (.ref s_Kind_MEAN) := Fld.start ((fld_at v_Measure_RECALL_100).symm.trans (own_eqR n38' v_Kind_MEAN))
  obtain ⟨n, o, h1, h2, h3, _, L, rfl, ⟨rfl, N⟩, hq⟩ := own_rm0 l s _ hw tables_1 i0 s_Measure_NUM_Q s_Measure_NUM_RET s_Measure_NUM_REL s_Measure_NUM_REL_RET s_Measure_MAP s_Measure_RECIP_RANK s_Measure_BPREF s_Measure_P_5 s_Measure_P_10 s_Measure_P_100 s_Measure_RECALL_5 s_Measure_RECALL_10 s_Measure_RECALL_100 s_Measure_RECALL_1000 s_Measure_NDCG s_Measure_PRES_100 s_Measure_PRES_1000 s_Kind_TOPICS s_Kind_COUNT s_Kind_MEAN s.heap S_Measure_NUM_Q E_Measure_NUM_Q S_Measure_NUM_RET E_Measure_NUM_RET S_Measure_NUM_REL E_Measure_NUM_REL S_Measure_NUM_REL_RET E_Measure_NUM_REL_RET S_Measure_MAP E_Measure_MAP S_Measure_RECIP_RANK E_Measure_RECIP_RANK S_Measure_BPREF E_Measure_BPREF S_Measure_P_5 E_Measure_P_5 S_Measure_P_10 E_Measure_P_10 S_Measure_P_100 E_Measure_P_100 S_Measure_RECALL_5 E_Measure_RECALL_5 S_Measure_RECALL_10 E_Measure_RECALL_10 S_Measure_RECALL_100 E_Measure_RECALL_100 S_Measure_RECALL_1000 E_Measure_RECALL_1000 S_Measure_NDCG E_Measure_NDCG S_Measure_PRES_100 E_Measure_PRES_100 S_Measure_PRES_1000 E_Measure_PRES_1000 S_Kind_TOPICS E_Kind_TOPICS F_Measure_NUM_Q_kind S_Kind_COUNT E_Kind_COUNT F_Measure_NUM_REL_RET_kind F_Kind_COUNT_ordinal F_Kind_TOPICS_ordinal S_Kind_MEAN E_Kind_MEAN F_Measure_P_10_kind F_Kind_MEAN_ordinal F_Measure_P_100_kind F_Measure_BPREF_kind F_Measure_P_5_kind F_Measure_NUM_REL_kind F_Measure_RECALL_10_kind F_Measure_NUM_RET_kind F_Measure_RECALL_1000_kind F_Measure_MAP_kind F_Measure_RECALL_5_kind F_Measure_PRES_1000_kind F_Measure_PRES_100_kind F_Measure_RECIP_RANK_kind F_Measure_NDCG_kind F_Measure_RECALL_100_kind (Fld.ne F_Kind_COUNT_ordinal F_Kind_TOPICS_ordinal (by decide)) (Fld.ne F_Kind_MEAN_ordinal F_Kind_TOPICS_ordinal (by decide)) p e ha hc hk s m _ below hf ((Spec.applies_iff_loose hf).mp happ).1 ⟨rfl, State.Warmed39.refl s, rfl⟩ trivial
  refine ⟨n, _, h1, h2, h3, hpost _ _ _ _ _ _ ⟨Cond.after_iff.mpr rfl, Cond.after_iff.mpr (eq_i res_at (Term.int_eval (1)) rfl), trivial⟩ ⟨hq.1, hq.2.1, (hq.2.2.sift fun y hy => Or.inr (N y hy)).mono (by decide) (by decide)⟩⟩
theorem main_1_1 : Claimed_1_1 := own_comes fun _ _ _ _ _ _ h hF => ⟨h.1, hF⟩
theorem main_1_2 : Claimed_1_2 := own_comes fun _ _ _ _ _ _ h hF => ⟨h.2.1, hF⟩
end Jvm.Pilot.@@N@@
namespace Jvm.Pilot.@@N@@
open Jvm Jvm.ClassFile Sem Op Lib Jvm.Free Jvm.Stand Jvm.Pilot.@@N@@.Jvm.D
/-! MADE BY PROGRAM (witnessworld.py) out of the Statement's table words and the real class files: 14 classes; the members and pool entries that the words name. The judged class is class 1, her method 1. -/
namespace start1
open Jvm.ClassFile
def u (s : String) : CpInfo := .utf8 (stringToUtf16 s)
/-- a pool by its gaps: so many unusable entries, then the entry; so many at the end -/
def gap : Nat → List CpInfo → List CpInfo
  | 0, r => r
  | n + 1, r => .unusable :: gap n r
def poolList (es : List (Nat × CpInfo)) (last : Nat) : List CpInfo := es.foldr (fun e r => gap e.1 (e.2 :: r)) (gap last [])
def pool (es : List (Nat × CpInfo)) (last : Nat) : Array CpInfo := ⟨poolList es last⟩
def fileOf (pool : Array CpInfo) (this : Nat) (attrs : Array Attribute := #[]) (ms : Array MethodInfo := #[]) (fl : Nat := 33) (sup : Nat := 0) (ifs : Array Nat := #[]) (fds : Array FieldInfo := #[]) : ClassFile where
  minorVersion := 0
  majorVersion := 65
  constantPool := pool
  accessFlags := fl
  thisClass := this
  superClass := sup
  interfaces := ifs
  fields := fds
  methods := ms
  attributes := attrs
def plain (name : String) (sup : Option ClassId) : Class where
  name := name
  kind := .ordinary
  loader := none
  accessFlags := 33
  super := sup
  interfaces := #[]
  cf := none
  fields := #[]
  methods := #[]
  instanceTypes := #[]
  staticTypes := #[]
  resolved := #[]
  callSites := []
  init := .initialized
  statics := none
  mirror := none

def pool0 : Array CpInfo := pool [(5, u "<init>"), (0, u "()V"), (1, .class_ 10), (1, u "java/lang/Object")] 113

def k0m0 : Method := { name := "<init>", desc := "()V", sig := { parameters := [], returnType := none }, accessFlags := 1, code := none }
/-- java/lang/Object -/
def k0 : Class := { plain "java/lang/Object" none with
  accessFlags := 33
  interfaces := #[]
  cf := some (fileOf pool0 8 #[] #[{ accessFlags := 1, nameIndex := 5, descriptorIndex := 6, attributes := #[] }] 33 0 #[] #[])
  fields := #[]
  methods := #[k0m0]
  instanceTypes := #[]
  staticTypes := #[]
  resolved := Array.replicate 124 none
  statics := none }

def pool1 : Array CpInfo := pool [(2, .class_ 4), (1, u "java/lang/Object"), (0, u "<init>"), (0, u "()V"), (0, .class_ 8), (0, u "com/example/prior_art_search/priorartsearch/eval/Measure"), (0, .fieldref 7 10), (0, .nameAndType 11 12), (0, u "NUM_Q"), (0, u "Lcom/example/prior_art_search/priorartsearch/eval/Measure;"), (0, .fieldref 7 14), (0, .nameAndType 15 12), (0, u "NUM_RET"), (0, .fieldref 7 17), (0, .nameAndType 18 12), (0, u "NUM_REL"), (0, .fieldref 7 20), (0, .nameAndType 21 12), (0, u "NUM_REL_RET"), (0, .fieldref 7 23), (0, .nameAndType 24 12), (0, u "MAP"), (0, .fieldref 7 26), (0, .nameAndType 27 12), (0, u "RECIP_RANK"), (0, .fieldref 7 29), (0, .nameAndType 30 12), (0, u "BPREF"), (0, .fieldref 7 32), (0, .nameAndType 33 12), (0, u "P_5"), (0, .fieldref 7 35), (0, .nameAndType 36 12), (0, u "P_10"), (0, .fieldref 7 38), (0, .nameAndType 39 12), (0, u "P_100"), (0, .fieldref 7 41), (0, .nameAndType 42 12), (0, u "RECALL_5"), (0, .fieldref 7 44), (0, .nameAndType 45 12), (0, u "RECALL_10"), (0, .fieldref 7 47), (0, .nameAndType 48 12), (0, u "RECALL_100"), (0, .fieldref 7 50), (0, .nameAndType 51 12), (0, u "RECALL_1000"), (0, .fieldref 7 53), (0, .nameAndType 54 12), (0, u "NDCG"), (0, .fieldref 7 56), (0, .nameAndType 57 12), (0, u "PRES_100"), (0, .fieldref 7 59), (0, .nameAndType 60 12), (0, u "PRES_1000"), (0, .integer 2147483647), (0, .methodref 7 63), (0, .nameAndType 64 65), (0, u "isPerTopic"), (0, u "()Z"), (0, .class_ 67), (0, u "com/example/prior_art_search/priorartsearch/eval/MeasureIsPerTopicPinLaw"), (2, u "law"), (0, u "(I)Z")] 5

def k1m0 : Method := { name := "<init>", desc := "()V", sig := { parameters := [], returnType := none }, accessFlags := 2, code := none }
def k1c1 : Code := { maxStack := 4, maxLocals := 4, code := code, exceptionTable := #[], attributes := #[] }
def k1m1 : Method := { name := "law", desc := "(I)Z", sig := { parameters := [.int], returnType := some .boolean }, accessFlags := 9, code := some k1c1 }
/-- com/example/prior_art_search/priorartsearch/eval/MeasureIsPerTopicPinLaw -/
def k1 : Class := { plain "com/example/prior_art_search/priorartsearch/eval/MeasureIsPerTopicPinLaw" (some 0) with
  accessFlags := 49
  interfaces := #[]
  cf := some (fileOf pool1 66 #[] #[{ accessFlags := 2, nameIndex := 5, descriptorIndex := 6, attributes := #[] }, { accessFlags := 9, nameIndex := 70, descriptorIndex := 71, attributes := #[] }] 49 2 #[] #[])
  fields := #[]
  methods := #[k1m0, k1m1]
  instanceTypes := #[]
  staticTypes := #[]
  resolved := Array.replicate 77 none
  statics := none }

def pool2 : Array CpInfo := pool [(1, .class_ 2), (0, u "java/lang/constant/Constable"), (0, .class_ 4), (0, u "java/lang/Object")] 6

/-- java/lang/constant/Constable -/
def k2 : Class := { plain "java/lang/constant/Constable" (some 0) with
  accessFlags := 1537
  interfaces := #[]
  cf := some (fileOf pool2 1 #[] #[] 1537 3 #[] #[])
  fields := #[]
  methods := #[]
  instanceTypes := #[]
  staticTypes := #[]
  resolved := Array.replicate 11 none
  statics := none }

def pool3 : Array CpInfo := pool [(1, .class_ 2), (0, u "java/lang/Comparable"), (0, .class_ 4), (0, u "java/lang/Object")] 7

/-- java/lang/Comparable -/
def k3 : Class := { plain "java/lang/Comparable" (some 0) with
  accessFlags := 1537
  interfaces := #[]
  cf := some (fileOf pool3 1 #[] #[] 1537 3 #[] #[])
  fields := #[]
  methods := #[]
  instanceTypes := #[]
  staticTypes := #[]
  resolved := Array.replicate 12 none
  statics := none }

def pool4 : Array CpInfo := pool [(1, .class_ 2), (0, u "java/io/Serializable"), (0, .class_ 4), (0, u "java/lang/Object")] 2

/-- java/io/Serializable -/
def k4 : Class := { plain "java/io/Serializable" (some 0) with
  accessFlags := 1537
  interfaces := #[]
  cf := some (fileOf pool4 1 #[] #[] 1537 3 #[] #[])
  fields := #[]
  methods := #[]
  instanceTypes := #[]
  staticTypes := #[]
  resolved := Array.replicate 7 none
  statics := none }

def pool5 : Array CpInfo := pool [(2, .class_ 4), (1, u "java/lang/Enum"), (0, u "name"), (0, u "Ljava/lang/String;"), (2, u "ordinal"), (0, u "I"), (1, .class_ 14), (1, u "java/lang/Object"), (4, u "hash"), (86, .class_ 108), (1, u "java/lang/Enum$EnumDesc"), (2, .class_ 112), (0, u "java/lang/constant/Constable"), (0, .class_ 114), (0, u "java/lang/Comparable"), (0, .class_ 116), (0, u "java/io/Serializable")] 87

/-- java/lang/Enum -/
def k5 : Class := { plain "java/lang/Enum" (some 0) with
  accessFlags := 1057
  interfaces := #[2, 3, 4]
  cf := some (fileOf pool5 2 #[.nestMembers #[106]] #[] 1057 12 #[111, 113, 115] #[{ accessFlags := 18, nameIndex := 5, descriptorIndex := 6, attributes := #[] }, { accessFlags := 18, nameIndex := 9, descriptorIndex := 10, attributes := #[] }, { accessFlags := 2, nameIndex := 19, descriptorIndex := 10, attributes := #[] }])
  fields := #[{ name := "name", type := (.object "java/lang/String"), accessFlags := 18, slot := 0, constantValue := 0 }, { name := "ordinal", type := .int, accessFlags := 18, slot := 1, constantValue := 0 }, { name := "hash", type := .int, accessFlags := 2, slot := 2, constantValue := 0 }]
  methods := #[]
  instanceTypes := #[(.object "java/lang/String"), .int, .int]
  staticTypes := #[]
  resolved := Array.replicate 204 none
  statics := none }

def pool6 : Array CpInfo := pool [(1, .class_ 2), (0, u "com/example/prior_art_search/priorartsearch/eval/Measure"), (2, u "NUM_Q"), (0, u "Lcom/example/prior_art_search/priorartsearch/eval/Measure;"), (2, u "NUM_RET"), (2, u "NUM_REL"), (2, u "NUM_REL_RET"), (2, u "MAP"), (2, u "RECIP_RANK"), (2, u "BPREF"), (2, u "P_5"), (2, u "P_10"), (2, u "P_100"), (2, u "RECALL_5"), (2, u "RECALL_10"), (2, u "RECALL_100"), (2, u "RECALL_1000"), (2, u "NDCG"), (2, u "PRES_100"), (2, u "PRES_1000"), (2, u "$VALUES"), (0, u "[Lcom/example/prior_art_search/priorartsearch/eval/Measure;"), (6, .class_ 67), (1, u "java/lang/Enum"), (8, u "label"), (0, u "Ljava/lang/String;"), (0, .fieldref 1 79), (0, .nameAndType 80 81), (0, u "kind"), (0, u "Lcom/example/prior_art_search/priorartsearch/eval/Measure$Kind;"), (2, u "ofTopic"), (0, u "Ljava/util/function/ToDoubleFunction;"), (1, .class_ 89), (1, u "com/example/prior_art_search/priorartsearch/eval/Measure$Kind"), (1, .fieldref 87 92), (0, .nameAndType 93 81), (0, u "TOPICS"), (98, u "()Z"), (1, u "isPerTopic")] 93

def k6c0 : Code := { maxStack := 2, maxLocals := 1, code := prog_10_method_6_code, exceptionTable := #[], attributes := #[] }
def k6m0 : Method := { name := "isPerTopic", desc := "()Z", sig := { parameters := [], returnType := some .boolean }, accessFlags := 1, code := some k6c0 }
/-- com/example/prior_art_search/priorartsearch/eval/Measure -/
def k6 : Class := { plain "com/example/prior_art_search/priorartsearch/eval/Measure" (some 5) with
  accessFlags := 16433
  interfaces := #[]
  cf := some (fileOf pool6 1 #[.nestMembers #[87]] #[{ accessFlags := 1, nameIndex := 194, descriptorIndex := 192, attributes := #[] }] 16433 65 #[] #[{ accessFlags := 16409, nameIndex := 5, descriptorIndex := 6, attributes := #[] }, { accessFlags := 16409, nameIndex := 9, descriptorIndex := 6, attributes := #[] }, { accessFlags := 16409, nameIndex := 12, descriptorIndex := 6, attributes := #[] }, { accessFlags := 16409, nameIndex := 15, descriptorIndex := 6, attributes := #[] }, { accessFlags := 16409, nameIndex := 18, descriptorIndex := 6, attributes := #[] }, { accessFlags := 16409, nameIndex := 21, descriptorIndex := 6, attributes := #[] }, { accessFlags := 16409, nameIndex := 24, descriptorIndex := 6, attributes := #[] }, { accessFlags := 16409, nameIndex := 27, descriptorIndex := 6, attributes := #[] }, { accessFlags := 16409, nameIndex := 30, descriptorIndex := 6, attributes := #[] }, { accessFlags := 16409, nameIndex := 33, descriptorIndex := 6, attributes := #[] }, { accessFlags := 16409, nameIndex := 36, descriptorIndex := 6, attributes := #[] }, { accessFlags := 16409, nameIndex := 39, descriptorIndex := 6, attributes := #[] }, { accessFlags := 16409, nameIndex := 42, descriptorIndex := 6, attributes := #[] }, { accessFlags := 16409, nameIndex := 45, descriptorIndex := 6, attributes := #[] }, { accessFlags := 16409, nameIndex := 48, descriptorIndex := 6, attributes := #[] }, { accessFlags := 16409, nameIndex := 51, descriptorIndex := 6, attributes := #[] }, { accessFlags := 16409, nameIndex := 54, descriptorIndex := 6, attributes := #[] }, { accessFlags := 18, nameIndex := 76, descriptorIndex := 77, attributes := #[] }, { accessFlags := 18, nameIndex := 80, descriptorIndex := 81, attributes := #[] }, { accessFlags := 18, nameIndex := 84, descriptorIndex := 85, attributes := #[] }, { accessFlags := 4122, nameIndex := 57, descriptorIndex := 58, attributes := #[] }])
  fields := #[{ name := "NUM_Q", type := (.object "com/example/prior_art_search/priorartsearch/eval/Measure"), accessFlags := 16409, slot := 0, constantValue := 0 }, { name := "NUM_RET", type := (.object "com/example/prior_art_search/priorartsearch/eval/Measure"), accessFlags := 16409, slot := 1, constantValue := 0 }, { name := "NUM_REL", type := (.object "com/example/prior_art_search/priorartsearch/eval/Measure"), accessFlags := 16409, slot := 2, constantValue := 0 }, { name := "NUM_REL_RET", type := (.object "com/example/prior_art_search/priorartsearch/eval/Measure"), accessFlags := 16409, slot := 3, constantValue := 0 }, { name := "MAP", type := (.object "com/example/prior_art_search/priorartsearch/eval/Measure"), accessFlags := 16409, slot := 4, constantValue := 0 }, { name := "RECIP_RANK", type := (.object "com/example/prior_art_search/priorartsearch/eval/Measure"), accessFlags := 16409, slot := 5, constantValue := 0 }, { name := "BPREF", type := (.object "com/example/prior_art_search/priorartsearch/eval/Measure"), accessFlags := 16409, slot := 6, constantValue := 0 }, { name := "P_5", type := (.object "com/example/prior_art_search/priorartsearch/eval/Measure"), accessFlags := 16409, slot := 7, constantValue := 0 }, { name := "P_10", type := (.object "com/example/prior_art_search/priorartsearch/eval/Measure"), accessFlags := 16409, slot := 8, constantValue := 0 }, { name := "P_100", type := (.object "com/example/prior_art_search/priorartsearch/eval/Measure"), accessFlags := 16409, slot := 9, constantValue := 0 }, { name := "RECALL_5", type := (.object "com/example/prior_art_search/priorartsearch/eval/Measure"), accessFlags := 16409, slot := 10, constantValue := 0 }, { name := "RECALL_10", type := (.object "com/example/prior_art_search/priorartsearch/eval/Measure"), accessFlags := 16409, slot := 11, constantValue := 0 }, { name := "RECALL_100", type := (.object "com/example/prior_art_search/priorartsearch/eval/Measure"), accessFlags := 16409, slot := 12, constantValue := 0 }, { name := "RECALL_1000", type := (.object "com/example/prior_art_search/priorartsearch/eval/Measure"), accessFlags := 16409, slot := 13, constantValue := 0 }, { name := "NDCG", type := (.object "com/example/prior_art_search/priorartsearch/eval/Measure"), accessFlags := 16409, slot := 14, constantValue := 0 }, { name := "PRES_100", type := (.object "com/example/prior_art_search/priorartsearch/eval/Measure"), accessFlags := 16409, slot := 15, constantValue := 0 }, { name := "PRES_1000", type := (.object "com/example/prior_art_search/priorartsearch/eval/Measure"), accessFlags := 16409, slot := 16, constantValue := 0 }, { name := "label", type := (.object "java/lang/String"), accessFlags := 18, slot := 3, constantValue := 0 }, { name := "kind", type := (.object "com/example/prior_art_search/priorartsearch/eval/Measure$Kind"), accessFlags := 18, slot := 4, constantValue := 0 }, { name := "ofTopic", type := (.object "java/util/function/ToDoubleFunction"), accessFlags := 18, slot := 5, constantValue := 0 }, { name := "$VALUES", type := (.array (.object "com/example/prior_art_search/priorartsearch/eval/Measure")), accessFlags := 4122, slot := 17, constantValue := 0 }]
  methods := #[k6m0]
  instanceTypes := #[(.object "java/lang/String"), .int, .int, (.object "java/lang/String"), (.object "com/example/prior_art_search/priorartsearch/eval/Measure$Kind"), (.object "java/util/function/ToDoubleFunction")]
  staticTypes := #[(.object "com/example/prior_art_search/priorartsearch/eval/Measure"), (.object "com/example/prior_art_search/priorartsearch/eval/Measure"), (.object "com/example/prior_art_search/priorartsearch/eval/Measure"), (.object "com/example/prior_art_search/priorartsearch/eval/Measure"), (.object "com/example/prior_art_search/priorartsearch/eval/Measure"), (.object "com/example/prior_art_search/priorartsearch/eval/Measure"), (.object "com/example/prior_art_search/priorartsearch/eval/Measure"), (.object "com/example/prior_art_search/priorartsearch/eval/Measure"), (.object "com/example/prior_art_search/priorartsearch/eval/Measure"), (.object "com/example/prior_art_search/priorartsearch/eval/Measure"), (.object "com/example/prior_art_search/priorartsearch/eval/Measure"), (.object "com/example/prior_art_search/priorartsearch/eval/Measure"), (.object "com/example/prior_art_search/priorartsearch/eval/Measure"), (.object "com/example/prior_art_search/priorartsearch/eval/Measure"), (.object "com/example/prior_art_search/priorartsearch/eval/Measure"), (.object "com/example/prior_art_search/priorartsearch/eval/Measure"), (.object "com/example/prior_art_search/priorartsearch/eval/Measure"), (.array (.object "com/example/prior_art_search/priorartsearch/eval/Measure"))]
  resolved := Array.replicate 288 none
  statics := some 0 }

def pool7 : Array CpInfo := pool [(1, .class_ 2), (0, u "com/example/prior_art_search/priorartsearch/eval/Measure$Kind"), (2, u "TOPICS"), (0, u "Lcom/example/prior_art_search/priorartsearch/eval/Measure$Kind;"), (2, u "COUNT"), (2, u "MEAN"), (2, u "$VALUES"), (0, u "[Lcom/example/prior_art_search/priorartsearch/eval/Measure$Kind;"), (6, .class_ 25), (1, u "java/lang/Enum"), (26, .class_ 53), (0, u "com/example/prior_art_search/priorartsearch/eval/Measure")] 2

/-- com/example/prior_art_search/priorartsearch/eval/Measure$Kind -/
def k7 : Class := { plain "com/example/prior_art_search/priorartsearch/eval/Measure$Kind" (some 5) with
  accessFlags := 16432
  interfaces := #[]
  cf := some (fileOf pool7 1 #[.nestHost 52] #[] 16432 23 #[] #[{ accessFlags := 16409, nameIndex := 5, descriptorIndex := 6, attributes := #[] }, { accessFlags := 16409, nameIndex := 9, descriptorIndex := 6, attributes := #[] }, { accessFlags := 16409, nameIndex := 12, descriptorIndex := 6, attributes := #[] }, { accessFlags := 4122, nameIndex := 15, descriptorIndex := 16, attributes := #[] }])
  fields := #[{ name := "TOPICS", type := (.object "com/example/prior_art_search/priorartsearch/eval/Measure$Kind"), accessFlags := 16409, slot := 0, constantValue := 0 }, { name := "COUNT", type := (.object "com/example/prior_art_search/priorartsearch/eval/Measure$Kind"), accessFlags := 16409, slot := 1, constantValue := 0 }, { name := "MEAN", type := (.object "com/example/prior_art_search/priorartsearch/eval/Measure$Kind"), accessFlags := 16409, slot := 2, constantValue := 0 }, { name := "$VALUES", type := (.array (.object "com/example/prior_art_search/priorartsearch/eval/Measure$Kind")), accessFlags := 4122, slot := 3, constantValue := 0 }]
  methods := #[]
  instanceTypes := #[(.object "java/lang/String"), .int, .int]
  staticTypes := #[(.object "com/example/prior_art_search/priorartsearch/eval/Measure$Kind"), (.object "com/example/prior_art_search/priorartsearch/eval/Measure$Kind"), (.object "com/example/prior_art_search/priorartsearch/eval/Measure$Kind"), (.array (.object "com/example/prior_art_search/priorartsearch/eval/Measure$Kind"))]
  resolved := Array.replicate 56 none
  statics := some 1 }

def pool8 : Array CpInfo := pool [(1, u "java/lang/Cloneable"), (0, .class_ 1), (0, u "java/lang/Object"), (0, .class_ 3)] 3

/-- java/lang/Cloneable -/
def k8 : Class := { plain "java/lang/Cloneable" (some 0) with
  accessFlags := 1537
  interfaces := #[]
  cf := some (fileOf pool8 2 #[] #[] 1537 4 #[] #[])
  fields := #[]
  methods := #[]
  instanceTypes := #[]
  staticTypes := #[]
  resolved := Array.replicate 8 none
  statics := none }

/-- the primitive byte -/
def k9 : Class := { plain "byte" none with kind := .primitive 'B', accessFlags := 0x411 }
/-- [B -/
def k10 : Class := { plain "[B" (some 0) with kind := .array 9 .byte, interfaces := #[8, 4], accessFlags := 1041 }

/-- the primitive int -/
def k11 : Class := { plain "int" none with kind := .primitive 'I', accessFlags := 0x411 }
/-- [I -/
def k12 : Class := { plain "[I" (some 0) with kind := .array 11 .int, interfaces := #[8, 4], accessFlags := 1041 }

/-- [Lcom/example/prior_art_search/priorartsearch/eval/Measure; -/
def k13 : Class := { plain "[Lcom/example/prior_art_search/priorartsearch/eval/Measure;" (some 0) with kind := .array 6 (.object "com/example/prior_art_search/priorartsearch/eval/Measure"), interfaces := #[8, 4], accessFlags := 1041 }

def heap : Heap := #[{ cls := 6, slots := #[.ref 2, .ref 3, .ref 4, .ref 5, .ref 6, .ref 7, .ref 8, .ref 9, .ref 10, .ref 11, .ref 12, .ref 13, .ref 14, .ref 15, .ref 16, .ref 17, .ref 18, .null], vm := .statics 6 },
  { cls := 7, slots := #[.ref 19, .ref 20, .ref 21, .null], vm := .statics 7 },
  { cls := 6, slots := #[.null, .int 0, .int 0, .null, .ref 19, .null], vm := .none },
  { cls := 6, slots := #[.null, .int 0, .int 0, .null, .ref 20, .null], vm := .none },
  { cls := 6, slots := #[.null, .int 0, .int 0, .null, .ref 20, .null], vm := .none },
  { cls := 6, slots := #[.null, .int 0, .int 0, .null, .ref 20, .null], vm := .none },
  { cls := 6, slots := #[.null, .int 0, .int 0, .null, .ref 21, .null], vm := .none },
  { cls := 6, slots := #[.null, .int 0, .int 0, .null, .ref 21, .null], vm := .none },
  { cls := 6, slots := #[.null, .int 0, .int 0, .null, .ref 21, .null], vm := .none },
  { cls := 6, slots := #[.null, .int 0, .int 0, .null, .ref 21, .null], vm := .none },
  { cls := 6, slots := #[.null, .int 0, .int 0, .null, .ref 21, .null], vm := .none },
  { cls := 6, slots := #[.null, .int 0, .int 0, .null, .ref 21, .null], vm := .none },
  { cls := 6, slots := #[.null, .int 0, .int 0, .null, .ref 21, .null], vm := .none },
  { cls := 6, slots := #[.null, .int 0, .int 0, .null, .ref 21, .null], vm := .none },
  { cls := 6, slots := #[.null, .int 0, .int 0, .null, .ref 21, .null], vm := .none },
  { cls := 6, slots := #[.null, .int 0, .int 0, .null, .ref 21, .null], vm := .none },
  { cls := 6, slots := #[.null, .int 0, .int 0, .null, .ref 21, .null], vm := .none },
  { cls := 6, slots := #[.null, .int 0, .int 0, .null, .ref 21, .null], vm := .none },
  { cls := 6, slots := #[.null, .int 0, .int 0, .null, .ref 21, .null], vm := .none },
  { cls := 7, slots := #[.null, .int 0, .int 0], vm := .none },
  { cls := 7, slots := #[.null, .int 1, .int 0], vm := .none },
  { cls := 7, slots := #[.null, .int 2, .int 0], vm := .none }]
def classes : Array Class := #[k0, k1, k2, k3, k4, k5, k6, k7, k8, k9, k10, k11, k12, k13]
def interned : List (Array UInt16 × Addr) := []
def slotsUsed : Nat := 133
def theMethod : MethodId := ⟨1, 1⟩
def args0 : Array Value := #[.int 5]
def aboutOver (below : List Frame) : State where
  vm := { classes := classes, interned := interned.toArray }
  heap := heap
  slotsUsed := slotsUsed
  threads := #[{ frames := .invoking theMethod args0 :: below }]
def below0 : List Frame := [.native { method := ⟨0, 0⟩, args := #[] }]
def about1 : State := aboutOver below0
def p0 : Program := .bare "" "" ""
def e0 : Env := launch0.env 0 0 0
theorem w_frames : about1.frames = Frame.invoking theMethod args0 :: below0 := rfl
set_option maxRecDepth 65536 in
theorem w_args : argsFit about1.vm theMethod args0 = true := by decide +kernel
set_option maxRecDepth 65536 in
theorem w_heap : heapFits about1 = true := by decide +kernel
set_option maxRecDepth 65536 in
theorem w_runnable : about1.curStatus? = some .runnable := by decide +kernel
set_option maxRecDepth 65536 in
theorem w_alone : about1.alone = true := by decide +kernel
set_option maxRecDepth 65536 in
theorem w_named : about1.methodNamed? x = some theMethod := by decide +kernel
set_option maxRecDepth 65536 in
theorem w_hears : about1.hears theMethod below0 = true := by decide +kernel
set_option maxRecDepth 65536 in
theorem w_ripe : about1.ripe theMethod args0 below0 = true := by decide +kernel
theorem w_running : about1.status = .running := rfl
set_option maxRecDepth 65536 in
theorem w_room : about1.hasRoom e0.platform room_1 = true :=
  launch0.hasRoom_least _ room_1 (by decide +kernel) (by decide +kernel) (by decide +kernel) (by decide +kernel) (by decide +kernel) (by decide +kernel)
theorem allAtoms_all (ts : List Jvm.Cond) (a : Array Jvm.Value) (st : Jvm.State) : (allAtoms ts).before a st = ts.all (fun c => c.before a st) := by
  induction ts with
  | nil => rfl
  | cons c t ih =>
    show (Jvm.Cond.and c (allAtoms t)).before a st = _
    rw [Jvm.Cond.before_and, ih, List.all_cons]
def words1 : List Jvm.Cond := Jvm.Cond.code x code maxLocals ret :: tables_1
/-- a 'code' word, met by the world's own term for the bytes: nothing is compared byte by byte -/
theorem code_word {y : MethodName} {bytes : ByteArray} {mx : Nat} {rt : Option FieldType} {a : Array Value} {s : State} {m : MethodId} {meth : Method} {c : Code} (h1 : s.methodNamed? y = some m) (h2 : s.vm.method? m = some meth) (h3 : meth.code = some c) (h4 : c.code = bytes)
    (h5 : (c.maxLocals == mx && c.exceptionTable.isEmpty && decide (c.maxStack ≤ mostOperands) && decide (meth.sig.returnType = rt) && !meth.locks && decide (parseMethodDescriptor y.desc = some meth.sig)) = true) : (Jvm.Cond.code y bytes mx rt).before a s = true := by
  simp only [Bool.and_eq_true, beq_iff_eq, Bool.not_eq_true', decide_eq_true_eq] at h5
  obtain ⟨⟨⟨⟨⟨g1, g2⟩, g3⟩, g4⟩, g5⟩, g6⟩ := h5
  simp [Cond.before, Cond.holds, Cond.value, h1, h2, h3, h4, g1, g2, g3, g4, g5, g6]
def isCode : Jvm.Cond → Bool
  | .code _ _ _ _ => true
  | _ => false
theorem all_split {L : List Jvm.Cond} {P : Jvm.Cond → Bool} (h1 : L.all (fun c => isCode c || P c) = true) (h2 : ∀ c ∈ L.filter isCode, P c = true) : L.all P = true := by
  refine List.all_eq_true.mpr fun c hc => ?_
  have h := List.all_eq_true.mp h1 c hc
  rcases Bool.eq_false_or_eq_true (isCode c) with hi | hi
  · exact h2 c (List.mem_filter.mpr ⟨hc, hi⟩)
  · simpa [hi] using h
set_option maxRecDepth 65536 in
theorem w_c0 : (Jvm.Cond.code x code maxLocals ret).before args0 about1 = true := code_word (m := ⟨1, 1⟩) (meth := k1m1) (c := k1c1) (by decide +kernel) rfl rfl rfl (by decide +kernel)
set_option maxRecDepth 65536 in
theorem w_c1 : (Jvm.Cond.code ({ cls := "com/example/prior_art_search/priorartsearch/eval/Measure", name := "isPerTopic", desc := "()Z" } : Jvm.MethodName) prog_10_method_6_code (1 : Nat) (Option.some Jvm.ClassFile.FieldType.boolean)).before args0 about1 = true := code_word (m := ⟨6, 0⟩) (meth := k6m0) (c := k6c0) (by decide +kernel) rfl rfl rfl (by decide +kernel)
def codes1 : List Jvm.Cond := [Jvm.Cond.code x code maxLocals ret, Jvm.Cond.code ({ cls := "com/example/prior_art_search/priorartsearch/eval/Measure", name := "isPerTopic", desc := "()Z" } : Jvm.MethodName) prog_10_method_6_code (1 : Nat) (Option.some Jvm.ClassFile.FieldType.boolean)]
set_option maxRecDepth 65536 in
theorem codes_eq : words1.filter isCode = codes1 := rfl
theorem w_codes : ∀ c ∈ words1.filter isCode, c.before args0 about1 = true := by
  rw [codes_eq]
  intro c hc
  simp only [codes1, List.mem_cons, List.not_mem_nil, or_false] at hc
  rcases hc with rfl | rfl
  · exact w_c0
  · exact w_c1
set_option maxRecDepth 65536 in
theorem w_t1 : (words1.take 24).all (fun c => isCode c || c.before args0 about1) = true := by decide +kernel
set_option maxRecDepth 65536 in
theorem w_t2 : ((words1.drop 24).take 24).all (fun c => isCode c || c.before args0 about1) = true := by decide +kernel
set_option maxRecDepth 65536 in
theorem w_t3 : ((words1.drop 24).drop 24).all (fun c => isCode c || c.before args0 about1) = true := by decide +kernel
theorem w_tables : (allAtoms (Jvm.Cond.code x code maxLocals ret :: tables_1)).before args0 about1 = true := by
  rw [allAtoms_all]
  show words1.all (fun c => c.before args0 about1) = true
  refine all_split ?_ w_codes
  rw [← List.take_append_drop 24 words1, List.all_append, w_t1, ← List.take_append_drop 24 (words1.drop 24), List.all_append, w_t2, w_t3]
  rfl
set_option maxRecDepth 65536 in
theorem w_case : (Jvm.Cond.and given_1 narrow_1).before args0 about1 = true := by decide +kernel
theorem w_applies : (headSpec (Jvm.Cond.code x code maxLocals ret :: tables_1) room_1).applies x e0.platform about1 = true :=
  (Spec.applies_iff w_frames).mpr ⟨w_running, w_runnable, w_alone, w_named, w_hears, w_ripe, w_room, w_tables⟩
theorem atStart : AtStart classFile x code maxLocals ret World_1 tables_1 room_1 Calls_1 rest_1 Pre_1 launch0 p0 e0 about1 theMethod args0 below0 :=
  ⟨lists_1, trivial, launch0.admits_env _ _ _, launch0.least_env, fairChoices_fair.cas, fairChoices_fair.clock, w_frames, w_args, w_heap, w_applies, trivial, trivial, w_case⟩
end start1
theorem witness_1 : WitnessClaimed_1 := ⟨start1.p0, start1.e0, start1.about1, start1.theMethod, start1.args0, start1.below0, start1.atStart⟩
end Jvm.Pilot.@@N@@
