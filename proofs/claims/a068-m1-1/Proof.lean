import JvmDerived
import JvmDerived.Pilot.@@N@@Statement
import JvmDerived.Pilot.@@N@@Code
set_option linter.unusedVariables false
set_option linter.unusedSimpArgs false
namespace Jvm.Pilot.@@N@@
open Jvm Jvm.ClassFile Sem Op Lib Jvm.Free Jvm.Stand Jvm.LawKit Jvm.RoadKit Bundle Jvm.Pilot.@@N@@.Jvm.D
/-! own: a walk carried forward as a goal, with forks -/
def own_G (p : Program) (e : Env) (below : List Frame) (s : State) (Q : Option Value → Heap → List Loc → Prop) (C S : Nat) (T : State) (f : JFrame) : Prop :=
  ∃ s₂ o, Steps p.tables e below (T.setTop f) s₂ ∧ s₂.status = .running ∧ Ended s₂ below o ∧ ∃ v L, o = .returned v ∧ Q v s₂.heap L ∧ FrameEnd s o s₂ L C S
abbrev own_C0 (l : Launch) (y : MethodName) (bytes : ByteArray) (maxL : Nat) (ret : Option FieldType) (ws : List Jvm.Cond) (rm : Room) (Z : State) (h : Heap) (as' : Array Value) (Q : Option Value → Heap → List Loc → Prop) (C S : Nat) : Prop :=
  MetFree l y (head1 (Jvm.Cond.code y bytes maxL ret :: ws) rm) (fun a U => a = as' ∧ Z.Warmed39 U.vm ∧ U.heap = h) (fun _ _ _ _ _ => True) (fun _ U o U' => ∃ v L, o = .returned v ∧ Q v U'.heap L ∧ FrameEnd U o U' L C S)
abbrev own_C (l : Launch) (y : MethodName) (bytes : ByteArray) (maxL : Nat) (ret : Option FieldType) (rm : Room) (Z : State) (h : Heap) (as' : Array Value) (Q : Option Value → Heap → List Loc → Prop) : Prop :=
  own_C0 l y bytes maxL ret [] rm Z h as' Q rm.cells rm.slots
/-- what a body says that writes nothing: its value -/
def own_P (r : Option Value) (h0 : Heap) (v : Option Value) (h : Heap) (L : List Loc) : Prop := v = r ∧ L = [] ∧ h = h0
abbrev own_R (f c n k : Nat) : Room := { frames := f, cells := c, slots := n, locals := k }
theorem own_body {l : Launch} {y : MethodName} {bytes : ByteArray} {maxL : Nat} {ret : Option FieldType} {ws : List Jvm.Cond} {rm : Room} {Z : State} {h0 : Heap} {as' : Array Value} {Q : Option Value → Heap → List Loc → Prop} {C S : Nat} (hpn : plainFor y = true)
    (body : ∀ p e s m below meth c s₁, p.tables.exec = Jvm.exec → c.code = bytes → c.maxLocals = maxL → Z.Warmed39 s.vm → s.vm.findClass y.cls = some m.cls → meth.name = y.name → meth.sig.returnType = ret → meth.locks = false →
      Stand p l e rm s m as' below meth c s₁ [] 0 0 → s₁.heap = h0 → own_G p e below s Q C S s₁ (entryFrame m as' maxL)) : own_C0 l y bytes maxL ret ws rm Z h0 as' Q C S := by
  refine MetFree.of_bodySF hpn hisR ?_
  intro p e s m args below meth c s₁ Bd hml hP hK
  obtain ⟨rfl, hZ, hh⟩ := hP
  exact body p e s m below meth c s₁ Bd.exec Bd.bytes hml hZ (findClass_of_methodNamed Bd.named) (name_of_methodNamed Bd.named Bd.method).1 Bd.returns Bd.notSynchronized (Stand.of_body Bd) (by rw [← hh, Bd.state]; rfl)
section Own
variable {p : Program} {l : Launch} {e : Env} {R : Room} {s : State} {m : MethodId} {args : Array Value} {below : List Frame} {meth : Method} {c : Code} {T T' : State} {locs : List Loc} {cells slots : Nat} {Q : Option Value → Heap → List Loc → Prop} {C S : Nat} {f f' : JFrame} {Z : State} {a0 : Array Value} {h : Heap}
theorem own_st (k : ∀ target, Steps p.tables e below (T'.setTop f') target → Steps p.tables e below (T.setTop f) target) (g : own_G p e below s Q C S T' f') : own_G p e below s Q C S T f := by
  obtain ⟨t, o, h1, h2⟩ := g
  exact ⟨t, o, k t h1, h2⟩
theorem own_cast (q : f = f') (g : own_G p e below s Q C S T f') : own_G p e below s Q C S T f := q ▸ g
theorem own_end {v : Option Value} (X : Stand p l e R s m args below meth c T locs cells slots) (hlk : meth.locks = false) (hv : meth.sig.returnType = none → v = none)
    (k : ∀ fs, (∀ (f : JFrame) (acts : List Action), f.method = m → f.locked = none → f.entered = [] → (doReturn e (T.setTop f) acts v).1 = T.setFrames fs) → Steps p.tables e below (T.setTop f) (T.setFrames fs))
    (hq : Q v T.heap locs) (hC : cells ≤ C) (hS : slots ≤ S) : own_G p e below s Q C S T f := by
  obtain ⟨fs, hr, hrun, hended, hW, hsame⟩ := X.leave (v := v) hv hlk
  exact ⟨_, _, k fs hr, hrun, hended, v, locs, rfl, hq, ⟨_, rfl⟩, hW, hsame.mono hC hS⟩
theorem own_retI (X : Stand p l e R s m args below meth c T locs cells slots) (hx : p.tables.exec = Jvm.exec) (hlk : meth.locks = false) (hret : meth.sig.returnType = some .int) {pc : Nat} {Ls : Array Slot} {z : Int32} {rest : List Value} (hd : decode c.code pc = .ok (.ireturn, 1))
    (hq : Q (some (.int z)) T.heap locs) (hC : cells ≤ C) (hS : slots ≤ S) : own_G p e below s Q C S T (mkF m pc Ls (.int z :: rest)) :=
  own_end X hlk (fun h => by rw [hret] at h; cases h) (fun fs hr => retOut X hx hret rfl (Or.inl ⟨rfl, Or.inl rfl, z, rfl⟩) hd hr) hq hC hS
theorem own_retN (X : Stand p l e R s m args below meth c T locs cells slots) (hx : p.tables.exec = Jvm.exec) (hlk : meth.locks = false) {t : FieldType} (hret : meth.sig.returnType = some t) (ht : t = .boolean ∨ t = .byte ∨ t = .char ∨ t = .short) {pc : Nat} {Ls : Array Slot} {z : Int32} {rest : List Value} (hd : decode c.code pc = .ok (.ireturn, 1))
    (hq : Q (some (.int (nar t z))) T.heap locs) (hC : cells ≤ C) (hS : slots ≤ S) : own_G p e below s Q C S T (mkF m pc Ls (.int z :: rest)) :=
  own_end X hlk (fun h => by rw [hret] at h; cases h) (fun fs hr => retN X hx hret ht hd hr) hq hC hS
theorem own_retJ (X : Stand p l e R s m args below meth c T locs cells slots) (hx : p.tables.exec = Jvm.exec) (hlk : meth.locks = false) (hret : meth.sig.returnType = some .long) {pc : Nat} {Ls : Array Slot} {z : Int64} {rest : List Value} (hd : decode c.code pc = .ok (.lreturn, 1))
    (hq : Q (some (.long z)) T.heap locs) (hC : cells ≤ C) (hS : slots ≤ S) : own_G p e below s Q C S T (mkF m pc Ls (.long z :: rest)) :=
  own_end X hlk (fun h => by rw [hret] at h; cases h) (fun fs hr => retOut X hx hret rfl (Or.inr (Or.inl ⟨rfl, rfl, z, rfl⟩)) hd hr) hq hC hS
theorem own_retA (X : Stand p l e R s m args below meth c T locs cells slots) (hx : p.tables.exec = Jvm.exec) (hlk : meth.locks = false) {t : FieldType} (hret : meth.sig.returnType = some t) (ht : t.isReference = true) {w : Value} (hw : w.isRef = true) {pc : Nat} {Ls : Array Slot} {rest : List Value} (hd : decode c.code pc = .ok (.areturn, 1))
    (hq : Q (some w) T.heap locs) (hC : cells ≤ C) (hS : slots ≤ S) : own_G p e below s Q C S T (mkF m pc Ls (w :: rest)) :=
  own_end X hlk (fun h => by rw [hret] at h; cases h) (fun fs hr => retOut X hx hret (by rcases ref_cases hw with rfl | ⟨a, rfl⟩ <;> cases t <;> first | rfl | (cases ht)) (Or.inr (Or.inr (Or.inr (Or.inr ⟨rfl, ht, hw⟩)))) hd hr) hq hC hS
theorem own_retV (X : Stand p l e R s m args below meth c T locs cells slots) (hx : p.tables.exec = Jvm.exec) (hlk : meth.locks = false) (hret : meth.sig.returnType = none) {pc : Nat} {Ls : Array Slot} (hd : decode c.code pc = .ok (.return_, 1))
    (hq : Q none T.heap locs) (hC : cells ≤ C) (hS : slots ≤ S) : own_G p e below s Q C S T (mkF m pc Ls []) :=
  own_end X hlk (fun _ => rfl) (fun fs hr => X.returnOut hx hret hd hr) hq hC hS
/-! calls by a contract: one row each -/
theorem own_callS (X : Stand p l e R s m args below meth c T locs cells slots) (hx : p.tables.exec = Jvm.exec) (hZ : Z.Warmed39 s.vm) (eT : T.heap = h) {own : String} {index : Nat} {y : MethodName} (hown : s.vm.findClass own = some m.cls) (w1 : (Cond.methodLink own index y).before a0 Z = true) (w2 : (Cond.static y).before a0 Z = true)
    (hy : y.cls ≠ "java/lang/invoke/MethodHandle" ∧ y.cls ≠ "java/lang/invoke/VarHandle") {bytes : ByteArray} {maxL : Nat} {ret : Option FieldType} {rm : Room} {as' : Array Value} (wc : (Cond.code y bytes maxL ret).before a0 Z = true) (wz : (Cond.initialized y.cls).before a0 Z = true) (hM : own_C l y bytes maxL ret rm Z h as' Q)
    {g : JFrame} (hg : g.method = m) (hsize : g.locals.size = c.maxLocals) (hmr : g.monitorRoom = 0) {argsL rest : List Value} (has : argsL.toArray = as') (hlen : ∀ sig, parseMethodDescriptor y.desc = some sig → argsL.length = sig.parameters.length) (hstack : g.stack = argsL.reverse ++ rest) (hd : decode c.code g.pc = .ok (.invokestatic index, 3))
    (hf : rm.frames + 1 ≤ R.frames) (hl : (rest.map fun v => v.category).sum + (maxL + 11) + rm.locals ≤ R.locals) (hc : cells + rm.cells ≤ R.cells) (hs : slots + rm.slots ≤ R.slots) :
    ∃ v T' L, Q v T'.heap L ∧ Stand p l e R s m args below meth c T' (locs ++ L) (cells + rm.cells) (slots + rm.slots) ∧ ∀ target, Steps p.tables e below (T'.setTop { g with pc := g.pc + 3, stack := v.toList ++ rest }) target → Steps p.tables e below (T.setTop g) target := by
  obtain ⟨v, _, ⟨T1, L1, k1, n1⟩, -, X1, ⟨Lc, hQ, l1, y1, z1⟩, st⟩ := Jvm.LawKit.callS X hx (y := y) hown (mvT hZ w1) (mvT hZ w2) (mvT hZ wz) (mvT hZ wc) hy (backOf (W := (rest.map fun v => v.category).sum) hM hZ wc wz hf hl) hg hsize (argsL := argsL) (rest := rest) hlen hstack (by rw [hmr]; omega) hd (fun _ _ => ⟨has, eT, hc, hs⟩)
  dsimp only [Pt.U, Pt.locs, Pt.cells, Pt.slots] at X1 l1 y1 z1 st hQ
  subst l1 y1 z1
  exact ⟨v, T1, Lc, hQ, X1, st⟩
theorem own_callN (X : Stand p l e R s m args below meth c T locs cells slots) (hx : p.tables.exec = Jvm.exec) (hZ : Z.Warmed39 s.vm) (eT : T.heap = h) {own : String} {index : Nat} {y : MethodName} (hown : s.vm.findClass own = some m.cls) (hy1 : y.name = "<init>") (w1 : (Cond.methodLink own index y).before a0 Z = true) (w2 : (Cond.instanceMethod y).before a0 Z = true)
    (hy : y.cls ≠ "java/lang/invoke/MethodHandle" ∧ y.cls ≠ "java/lang/invoke/VarHandle") {a : Addr} {bytes : ByteArray} {maxL : Nat} {rm : Room} {as' : Array Value} (wc : (Cond.code y bytes maxL none).before a0 Z = true) (wz : (Cond.initialized y.cls).before a0 Z = true) (hM : own_C l y bytes maxL none rm Z h as' Q)
    {g : JFrame} (hg : g.method = m) (hsize : g.locals.size = c.maxLocals) (hmr : g.monitorRoom = 0) {argsL rest : List Value} (has : (Value.ref a :: argsL).toArray = as') (hlen : ∀ sig, parseMethodDescriptor y.desc = some sig → argsL.length = sig.parameters.length) (hstack : g.stack = argsL.reverse ++ .ref a :: rest) (hd : decode c.code g.pc = .ok (.invokespecial index, 3))
    (hf : rm.frames + 1 ≤ R.frames) (hl : (rest.map fun v => v.category).sum + (maxL + 11) + rm.locals ≤ R.locals) (hc : cells + rm.cells ≤ R.cells) (hs : slots + rm.slots ≤ R.slots) :
    ∃ v T' L, Q v T'.heap L ∧ Stand p l e R s m args below meth c T' (locs ++ L) (cells + rm.cells) (slots + rm.slots) ∧ ∀ target, Steps p.tables e below (T'.setTop { g with pc := g.pc + 3, stack := v.toList ++ rest }) target → Steps p.tables e below (T.setTop g) target := by
  obtain ⟨v, _, ⟨T1, L1, k1, n1⟩, -, X1, ⟨Lc, hQ, l1, y1, z1⟩, st⟩ := X.specialBack hx (y := y) hy1 hown (mvT hZ w1) (mvT hZ w2) (mvT hZ wc) hy (backOf (W := (rest.map fun v => v.category).sum) hM hZ wc wz hf hl) hg hsize (Steps.refl _) (a := a) (argsL := argsL) (rest := rest) hlen hstack (by rw [hmr]; omega) hd (fun _ _ => ⟨has, eT, hc, hs⟩)
  dsimp only [Pt.U, Pt.locs, Pt.cells, Pt.slots] at X1 l1 y1 z1 st hQ
  subst l1 y1 z1
  exact ⟨v, T1, Lc, hQ, X1, fun _ k => st.trans k⟩
theorem own_callV' (X : Stand p l e R s m args below meth c T locs cells slots) (hx : p.tables.exec = Jvm.exec) (hZ : Z.Warmed39 s.vm) (eT : T.heap = h) {own K : String} {index : Nat} {y z : MethodName} (hown : s.vm.findClass own = some m.cls) (w1 : (Cond.methodLink own index y).before a0 Z = true) (w2 : (Cond.declares y).before a0 Z = true) (hnf : NotFace s y) (w3 : (Cond.selects K y z).before a0 Z = true) (w4 : (Cond.instanceMethod z).before a0 Z = true)
    (hy : y.cls ≠ "java/lang/invoke/MethodHandle" ∧ y.cls ≠ "java/lang/invoke/VarHandle") {b : Addr} (E : Exa Z h b K) {bytes : ByteArray} {maxL : Nat} {ret : Option FieldType} {rm : Room} {as' : Array Value} (wc : (Cond.code z bytes maxL ret).before a0 Z = true) (wz : (Cond.initialized z.cls).before a0 Z = true) (hM : own_C l z bytes maxL ret rm Z h as' Q)
    {g : JFrame} (hg : g.method = m) (hsize : g.locals.size = c.maxLocals) (hmr : g.monitorRoom = 0) {argsL rest : List Value} (has : (Value.ref b :: argsL).toArray = as') (hlen : ∀ sig, parseMethodDescriptor y.desc = some sig → argsL.length = sig.parameters.length) (hstack : g.stack = argsL.reverse ++ .ref b :: rest) (hd : decode c.code g.pc = .ok (.invokevirtual index, 3))
    (hf : rm.frames + 1 ≤ R.frames) (hl : (rest.map fun v => v.category).sum + (maxL + 11) + rm.locals ≤ R.locals) (hc : cells + rm.cells ≤ R.cells) (hs : slots + rm.slots ≤ R.slots) :
    ∃ v T' L, Q v T'.heap L ∧ Stand p l e R s m args below meth c T' (locs ++ L) (cells + rm.cells) (slots + rm.slots) ∧ ∀ target, Steps p.tables e below (T'.setTop { g with pc := g.pc + 3, stack := v.toList ++ rest }) target → Steps p.tables e below (T.setTop g) target := by
  obtain ⟨cq, kq, q1, q2, q3⟩ := isOf hZ eT E
  obtain ⟨v, _, ⟨T1, L1, k1, n1⟩, -, X1, ⟨Lc, hQ, l1, y1, z1⟩, st⟩ := X.virtualBack hx (y := y) (z := z) hown (mvT hZ w1) (mvT hZ w2) hnf (mvT hZ w3) (mvT hZ w4) hy (backOf (W := (rest.map fun v => v.category).sum) hM hZ wc wz hf hl) q1 q3 hg hsize (Steps.refl _) (argsL := argsL) (rest := rest) hlen hstack (by rw [hmr]; omega) hd (fun _ _ => ⟨has, eT, hc, hs⟩)
  dsimp only [Pt.U, Pt.locs, Pt.cells, Pt.slots] at X1 l1 y1 z1 st hQ
  subst l1 y1 z1
  exact ⟨v, T1, Lc, hQ, X1, fun _ k => st.trans k⟩
theorem own_callV (X : Stand p l e R s m args below meth c T locs cells slots) (hx : p.tables.exec = Jvm.exec) (hZ : Z.Warmed39 s.vm) (eT : T.heap = h) {own K : String} {index : Nat} {y : MethodName} (hown : s.vm.findClass own = some m.cls) (w1 : (Cond.methodLink own index y).before a0 Z = true) (w2 : (Cond.declares y).before a0 Z = true) (w3 : (Cond.selects K y y).before a0 Z = true) (w4 : (Cond.instanceMethod y).before a0 Z = true)
    (hy : y.cls ≠ "java/lang/invoke/MethodHandle" ∧ y.cls ≠ "java/lang/invoke/VarHandle") {b : Addr} (E : Exa Z h b K) {bytes : ByteArray} {maxL : Nat} {ret : Option FieldType} {rm : Room} {as' : Array Value} (wc : (Cond.code y bytes maxL ret).before a0 Z = true) (wz : (Cond.initialized y.cls).before a0 Z = true) (hM : own_C l y bytes maxL ret rm Z h as' Q)
    {g : JFrame} (hg : g.method = m) (hsize : g.locals.size = c.maxLocals) (hmr : g.monitorRoom = 0) {argsL rest : List Value} (has : (Value.ref b :: argsL).toArray = as') (hlen : ∀ sig, parseMethodDescriptor y.desc = some sig → argsL.length = sig.parameters.length) (hstack : g.stack = argsL.reverse ++ .ref b :: rest) (hd : decode c.code g.pc = .ok (.invokevirtual index, 3))
    (hf : rm.frames + 1 ≤ R.frames) (hl : (rest.map fun v => v.category).sum + (maxL + 11) + rm.locals ≤ R.locals) (hc : cells + rm.cells ≤ R.cells) (hs : slots + rm.slots ≤ R.slots) :
    ∃ v T' L, Q v T'.heap L ∧ Stand p l e R s m args below meth c T' (locs ++ L) (cells + rm.cells) (slots + rm.slots) ∧ ∀ target, Steps p.tables e below (T'.setTop { g with pc := g.pc + 3, stack := v.toList ++ rest }) target → Steps p.tables e below (T.setTop g) target :=
  own_callV' X hx hZ eT hown w1 w2 (notFace_of_selects (args := #[]) (mvT hZ w3)) w3 w4 hy E wc wz hM hg hsize hmr has hlen hstack hd hf hl hc hs
theorem own_callU (X : Stand p l e R s m args below meth c T locs cells slots) (hx : p.tables.exec = Jvm.exec) (hZ : Z.Warmed39 s.vm) (eT : T.heap = h) {own K owner : String} {index : Nat} {y z : MethodName} (hown : s.vm.findClass own = some m.cls) (w1 : (Cond.methodLink own index y).before a0 Z = true) (w0 : (Cond.sameMethod y.cls owner y.name y.desc).before a0 Z = true) (w2 : (Cond.declares ⟨owner, y.name, y.desc⟩).before a0 Z = true) (w3 : (Cond.selects K y z).before a0 Z = true) (w4 : (Cond.instanceMethod z).before a0 Z = true)
    (hy : owner ≠ "java/lang/invoke/MethodHandle" ∧ owner ≠ "java/lang/invoke/VarHandle") {b : Addr} (E : Exa Z h b K) {bytes : ByteArray} {maxL : Nat} {ret : Option FieldType} {rm : Room} {as' : Array Value} (wc : (Cond.code z bytes maxL ret).before a0 Z = true) (wz : (Cond.initialized z.cls).before a0 Z = true) (hM : own_C l z bytes maxL ret rm Z h as' Q)
    {g : JFrame} (hg : g.method = m) (hsize : g.locals.size = c.maxLocals) (hmr : g.monitorRoom = 0) {argsL rest : List Value} (has : (Value.ref b :: argsL).toArray = as') (hlen : ∀ sig, parseMethodDescriptor y.desc = some sig → argsL.length = sig.parameters.length) (hstack : g.stack = argsL.reverse ++ .ref b :: rest) (hd : decode c.code g.pc = .ok (.invokevirtual index, 3))
    (hf : rm.frames + 1 ≤ R.frames) (hl : (rest.map fun v => v.category).sum + (maxL + 11) + rm.locals ≤ R.locals) (hc : cells + rm.cells ≤ R.cells) (hs : slots + rm.slots ≤ R.slots) :
    ∃ v T' L, Q v T'.heap L ∧ Stand p l e R s m args below meth c T' (locs ++ L) (cells + rm.cells) (slots + rm.slots) ∧ ∀ target, Steps p.tables e below (T'.setTop { g with pc := g.pc + 3, stack := v.toList ++ rest }) target → Steps p.tables e below (T.setTop g) target := by
  obtain ⟨cq, kq, q1, q2, q3⟩ := isOf hZ eT E
  obtain ⟨v, _, ⟨T1, L1, k1, n1⟩, -, X1, ⟨Lc, hQ, l1, y1, z1⟩, st⟩ := X.virtualBackUp hx (x := y) (y := z) (owner := owner) hown (mvT hZ w1) (mvT hZ w0) (mvT hZ w2) hy (mvT hZ w3) (mvT hZ w4) (backOf (W := (rest.map fun v => v.category).sum) hM hZ wc wz hf hl) q1 q3 hg hsize (Steps.refl _) (argsL := argsL) (rest := rest) hlen hstack (by rw [hmr]; omega) hd (fun _ _ => ⟨has, eT, hc, hs⟩)
  dsimp only [Pt.U, Pt.locs, Pt.cells, Pt.slots] at X1 l1 y1 z1 st hQ
  subst l1 y1 z1
  exact ⟨v, T1, Lc, hQ, X1, fun _ k => st.trans k⟩
theorem own_selP {y : MethodName} {n : Nat} (wi : (Cond.instantiable y.cls n).before a0 Z = true) (w2 : (Cond.instanceMethod y).before a0 Z = true) (w3 : (Cond.privateMethod y).before a0 Z = true) (hy : y.cls ≠ "java/lang/invoke/MethodHandle" ∧ y.cls ≠ "java/lang/invoke/VarHandle") : (Cond.selects y.cls y y).before a0 Z = true := by
  obtain ⟨c, k, h1, h2, -, h4, -⟩ := Cond.instantiable_spec wi
  exact selects_self_of_private h1 h2 (by cases hq : k.isInterface <;> simp_all) (Cond.privateMethod_at w3) w2 hy
theorem own_callP (X : Stand p l e R s m args below meth c T locs cells slots) (hx : p.tables.exec = Jvm.exec) (hZ : Z.Warmed39 s.vm) (eT : T.heap = h) {own K : String} {index n : Nat} {y : MethodName} (hown : s.vm.findClass own = some m.cls) (w1 : (Cond.methodLink own index y).before a0 Z = true) (w2 : (Cond.instanceMethod y).before a0 Z = true) (wi : (Cond.instantiable y.cls n).before a0 Z = true) (w3 : (Cond.privateMethod y).before a0 Z = true)
    (hy : y.cls ≠ "java/lang/invoke/MethodHandle" ∧ y.cls ≠ "java/lang/invoke/VarHandle") {a : Addr} (E : Exa Z h a K) {bytes : ByteArray} {maxL : Nat} {ret : Option FieldType} {rm : Room} {as' : Array Value} (wc : (Cond.code y bytes maxL ret).before a0 Z = true) (wz : (Cond.initialized y.cls).before a0 Z = true) (hM : own_C l y bytes maxL ret rm Z h as' Q)
    {g : JFrame} (hg : g.method = m) (hsize : g.locals.size = c.maxLocals) (hmr : g.monitorRoom = 0) {argsL rest : List Value} (has : (Value.ref a :: argsL).toArray = as') (hlen : ∀ sig, parseMethodDescriptor y.desc = some sig → argsL.length = sig.parameters.length) (hstack : g.stack = argsL.reverse ++ .ref a :: rest) (hd : decode c.code g.pc = .ok (.invokevirtual index, 3))
    (hf : rm.frames + 1 ≤ R.frames) (hl : (rest.map fun v => v.category).sum + (maxL + 11) + rm.locals ≤ R.locals) (hc : cells + rm.cells ≤ R.cells) (hs : slots + rm.slots ≤ R.slots) :
    ∃ v T' L, Q v T'.heap L ∧ Stand p l e R s m args below meth c T' (locs ++ L) (cells + rm.cells) (slots + rm.slots) ∧ ∀ target, Steps p.tables e below (T'.setTop { g with pc := g.pc + 3, stack := v.toList ++ rest }) target → Steps p.tables e below (T.setTop g) target := by
  obtain ⟨cq, q1, q2⟩ := E.cell
  have ws := own_selP wi w2 w3 hy
  obtain ⟨v, _, ⟨T1, L1, k1, n1⟩, -, X1, ⟨Lc, hQ, l1, y1, z1⟩, st⟩ := X.privateBack hx (y := y) hown (mvT hZ w1) (mvT hZ w2) (mvT hZ ws) (Cond.privateMethod_at (mvP hZ w3 (args := #[]))) (mvT hZ wc) hy (backOf (W := (rest.map fun v => v.category).sum) hM hZ wc wz hf hl) hg hsize (Steps.refl _) (a := a) (by rw [eT]; exact q1) q2 (argsL := argsL) (rest := rest) hlen hstack (by rw [hmr]; omega) hd (fun _ _ => ⟨has, eT, hc, hs⟩)
  dsimp only [Pt.U, Pt.locs, Pt.cells, Pt.slots] at X1 l1 y1 z1 st hQ
  subst l1 y1 z1
  exact ⟨v, T1, Lc, hQ, X1, fun _ k => st.trans k⟩
theorem own_backF {y : MethodName} {bytes : ByteArray} {maxL : Nat} {ret : Option FieldType} {rm : Room} {W : Nat} {as' : Array Value} (hM : own_C l y bytes maxL ret rm Z h as' Q) (hZ : Z.Warmed39 s.vm) (wc : (Cond.code y bytes maxL ret).before a0 Z = true) (wz : (Cond.initialized y.cls).before a0 Z = true) (hf : rm.frames + 1 ≤ R.frames) (hl : W + (maxL + 11) + rm.locals ≤ R.locals) :
    Back l R p e below s args y 5 W (fun A a => a = as' ∧ A.U.heap = h ∧ A.cells + rm.cells ≤ R.cells ∧ A.slots + rm.slots ≤ R.slots) (fun A _ v B => ∃ L, Q v B.U.heap L ∧ B.locs = A.locs ++ L ∧ B.cells = A.cells + rm.cells ∧ B.slots = A.slots + rm.slots) := backOf (W := W) hM hZ wc wz hf hl
theorem own_callF (X : Stand p l e R s m args below meth c T locs cells slots) (hx : p.tables.exec = Jvm.exec) (hZ : Z.Warmed39 s.vm) (eT : T.heap = h) {own K : String} {index count : Nat} {xi y : MethodName} (hown : s.vm.findClass own = some m.cls) (w1 : (Cond.methodLink own index xi).before a0 Z = true) (w2 : (Cond.declares xi).before a0 Z = true) (w3 : (Cond.interfaceMethod xi.cls xi.cls xi.name xi.desc).before a0 Z = true) (w4 : (Cond.selects K xi y).before a0 Z = true) (w5 : (Cond.instanceMethod y).before a0 Z = true) (w6 : (Cond.publicMethod y).before a0 Z = true) (w7 : (Cond.unhidden K xi.name xi.desc).before a0 Z = true) (w8 : (Cond.castable K xi.cls).before a0 Z = true) (hfa : ((Cond.interfaceMethod xi.cls xi.cls xi.name xi.desc).onTables && (Cond.interfaceMethod xi.cls xi.cls xi.name xi.desc).keepsFace) = true)
    (hy : xi.cls ≠ "java/lang/invoke/MethodHandle" ∧ xi.cls ≠ "java/lang/invoke/VarHandle") {b : Addr} (E : Exa Z h b K) {bytes : ByteArray} {maxL : Nat} {ret : Option FieldType} {rm : Room} {as' : Array Value} (wc : (Cond.code y bytes maxL ret).before a0 Z = true) (wz : (Cond.initialized y.cls).before a0 Z = true) (hM : own_C l y bytes maxL ret rm Z h as' Q)
    {g : JFrame} (hg : g.method = m) (hsize : g.locals.size = c.maxLocals) (hmr : g.monitorRoom = 0) {argsL rest : List Value} (has : (Value.ref b :: argsL).toArray = as') (hlen : ∀ sig, parseMethodDescriptor xi.desc = some sig → argsL.length = sig.parameters.length) (hstack : g.stack = argsL.reverse ++ .ref b :: rest) (hd : decode c.code g.pc = .ok (.invokeinterface index count, 5))
    (hf : rm.frames + 1 ≤ R.frames) (hl : (rest.map fun v => v.category).sum + (maxL + 11) + rm.locals ≤ R.locals) (hc : cells + rm.cells ≤ R.cells) (hs : slots + rm.slots ≤ R.slots) :
    ∃ v T' L, Q v T'.heap L ∧ Stand p l e R s m args below meth c T' (locs ++ L) (cells + rm.cells) (slots + rm.slots) ∧ ∀ target, Steps p.tables e below (T'.setTop { g with pc := g.pc + 5, stack := v.toList ++ rest }) target → Steps p.tables e below (T.setTop g) target := by
  obtain ⟨cq, kq, q1, q2, q3⟩ := isOf hZ eT E
  obtain ⟨v, _, ⟨T1, L1, k1, n1⟩, -, X1, ⟨Lc, hQ, l1, y1, z1⟩, st⟩ := X.interfaceBack hx (xi := xi) (y := y) hown (mvT hZ w1) (mvT hZ w2) (mvT hZ w3 hfa) (mvT hZ w4) (mvT hZ w5) (mvT hZ w6) (mvT hZ w7) (mvT hZ w8) hy (own_backF (W := (rest.map fun v => v.category).sum) hM hZ wc wz hf hl) q1 q2 q3 hg hsize (Steps.refl _) (argsL := argsL) (rest := rest) hlen hstack (by rw [hmr]; omega) hd (fun _ _ => ⟨has, eT, hc, hs⟩)
  dsimp only [Pt.U, Pt.locs, Pt.cells, Pt.slots] at X1 l1 y1 z1 st hQ
  subst l1 y1 z1
  exact ⟨v, T1, Lc, hQ, X1, fun _ k => st.trans k⟩
/-! from the case's words -/
theorem own_eqR {args : Array Value} {first s : State} {o : Option Outcome} {idx : List Nat} {a b : Term} {x : Addr} (h : (Cond.eq a b).value args first o s idx = some true) (hb : b.eval args first o idx s = some (.ref x)) : a.eval args first o idx s = some (.ref x) := by
  obtain ⟨u, w, h1, h2, h3, h4⟩ := cmp_v (Or.inl h)
  cases hb.symm.trans h2
  rcases ref_cases (show u.isRef = true by cases u <;> simp [Kin, Value.isRef] at h4 ⊢) with rfl | ⟨z, rfl⟩
  · exact absurd (gotT (eq_R h1 h2 rfl rfl) h) nofun
  · rw [h1, gotT (eq_R h1 h2 rfl rfl) h]
theorem own_eqI {args : Array Value} {first s : State} {o : Option Outcome} {idx : List Nat} {a : Term} {n : Int32} (h : (Cond.eq a (.int n)).value args first o s idx = some true) : a.eval args first o idx s = some (.int n) := by
  obtain ⟨u, w, h1, h2, h3, h4⟩ := cmp_v (Or.inl h)
  cases (show some (Value.int n) = some w from h2)
  obtain ⟨z, rfl⟩ : ∃ z, u = .int z := h4
  have q : (Cond.eq a (.int n)).value args first o s idx = some (decide (z = n)) := by simp [Cond.value, h1, Term.eval]
  rw [h1, gotT q h]
theorem own_irr (x : Int32) : ¬ x < x := by rw [Int32.lt_iff_toInt_lt]; omega
theorem own_irrL (x : Int64) : ¬ x < x := by rw [Int64.lt_iff_toInt_lt]; omega
end Own
end Jvm.Pilot.@@N@@
namespace Jvm.Pilot.@@N@@
open Jvm Jvm.ClassFile Sem Op Lib Jvm.Free Jvm.Stand Jvm.LawKit Jvm.RoadKit Bundle Jvm.Pilot.@@N@@.Jvm.D
theorem own_extE {h0 h h' : Heap} (E : Ext h0 h) (E' : Ext h h') : Ext h0 h' := ⟨Nat.le_trans E.1 E'.1, fun a c q => E'.2 a c (E.2 a c q)⟩
theorem own_extW {h0 h h' : Heap} {a : Addr} {sl : Nat} {v : Value} (E : Ext h0 h) (W : Wr h h' a sl v) (q : h0.size ≤ a) : Ext h0 h' := by
  refine ⟨Nat.le_trans E.1 (Keep.of_wr W).1, fun b c hb => ?_⟩
  obtain ⟨c', h1, -, -, -, h5, -, -⟩ := wr_at W (E.2 b c hb)
  have ne : b ≠ a := fun e => absurd (Array.getElem?_eq_some_iff.mp hb).1 (Nat.not_lt.mpr (e ▸ q))
  rw [← h5 ne]; exact h1
theorem own_ext0 (h : Heap) : Ext h h := ⟨Nat.le_refl _, fun _ _ q => q⟩
theorem own_extK {h0 h h' : Heap} {ws : List Addr} (E : Ext h0 h) (K : Keep h h' ws) (q : ∀ x ∈ ws, h0.size ≤ x) : Ext h0 h' :=
  ⟨Nat.le_trans E.1 K.1, fun a c r => K.2.1 a c (E.2 a c r) fun z => absurd (Array.getElem?_eq_some_iff.mp r).1 (Nat.not_lt.mpr (q a z))⟩
theorem own_frm {k k' : Nat} {L : List Loc} (N : Fr k L) (q : k' ≤ k) : Fr k' L := fun y hy => Nat.le_trans q (N y hy)
theorem own_rng (x : Int32) : (¬ (x &&& (2147483647 : Int32)) % (2147483647 : Int32) < (0 : Int32)) ∧ (¬ (x &&& (2147483647 : Int32)) % (2147483647 : Int32) = (2147483647 : Int32)) ∧ (x &&& (2147483647 : Int32)) % (2147483647 : Int32) < (2147483647 : Int32) := by
  have e1 := c_mask x (2147483647 : Int32) 31 (by decide) (by decide)
  have e2 := (c_irem (x &&& (2147483647 : Int32)) (2147483647 : Int32) 2147483647 (by decide)).1 (by omega)
  have e3 : ((0 : Int32)).toInt = 0 := by decide
  have e4 : ((2147483647 : Int32)).toInt = 2147483647 := by decide
  refine ⟨?_, fun h => ?_, ?_⟩
  · rw [Int32.lt_iff_toInt_lt, e3]; omega
  · have := congrArg Int32.toInt h; rw [e4] at this; omega
  · rw [Int32.lt_iff_toInt_lt, e4]; omega
theorem own_d2_0 : decode prog_10_method_1_code 0 = .ok (.aload_n 0, 1) := by decide +kernel
theorem own_d2_1 : decode prog_10_method_1_code 1 = .ok (.invokespecial 1, 3) := by decide +kernel
theorem own_d2_4 : decode prog_10_method_1_code 4 = .ok (.aload_n 0, 1) := by decide +kernel
theorem own_d2_5 : decode prog_10_method_1_code 5 = .ok (.iload_n 1, 1) := by decide +kernel
theorem own_d2_6 : decode prog_10_method_1_code 6 = .ok (.putfield 7, 3) := by decide +kernel
theorem own_d2_9 : decode prog_10_method_1_code 9 = .ok (.return_, 1) := by decide +kernel
theorem own_pn2 : plainFor (⟨"com/example/unless/unless/reasoning/Rank", "<init>", "(I)V"⟩ : MethodName) = true := plainFor_of_name (by first | (simp [plainName, overriddenIn]; done) | decide +kernel)
set_option maxRecDepth 65536 in
set_option maxHeartbeats 40000000 in
theorem own_init (l : Launch) (Z : State) (a0 : Array Value) (hw : ∀ d ∈ tables_1, d.before a0 Z = true) (a : Addr) (i : Int32) (h0 : Heap) (n0 : Nat) (ga : n0 ≤ a) (E0 : Exa Z h0 a "com/example/unless/unless/reasoning/Rank") (F0_value : Fld Z h0 a "com/example/unless/unless/reasoning/Rank" "value" "I" (.int (0 : Int32))) :
    own_C l (⟨"com/example/unless/unless/reasoning/Rank", "<init>", "(I)V"⟩ : MethodName) prog_10_method_1_code 2 none (own_R 1 0 0 12) Z h0 #[(.ref a), (.int i)] (fun v h L => v = none ∧ Fr n0 L ∧ Keep h0 h [a] ∧ Exa Z h a "com/example/unless/unless/reasoning/Rank" ∧ Fld Z h a "com/example/unless/unless/reasoning/Rank" "value" "I" (.int i)) := by
  refine own_body own_pn2 ?_
  intro p e s m below meth c s₁ hx hby hml hZ hown hnm hret hlk X0 e0
  refine own_cast (f' := (mkF m 0 #[(.val (.ref a)), (.val (.int i))] [])) (by first | (simp [entryFrame, mkF, argsToLocals, Value.category, maxLocals]; done) | rfl) ?_
  refine own_st (T' := s₁) (f' := (mkF m 1 #[(.val (.ref a)), (.val (.int i))] [(.ref a)])) (fun _ kont => XS.aloadN X0.here hx rfl (hb hby own_d2_0) rfl rfl kont) ?_
  obtain ⟨T1, X1, e1, st1⟩ := initO X0 hx hZ hown (hw _ (List.mem_of_getElem? (i := 11) rfl)) (hw _ (List.mem_of_getElem? (i := 12) rfl)) (hw _ (List.mem_of_getElem? (i := 13) rfl)) e0 (g := (mkF m 1 #[(.val (.ref a)), (.val (.int i))] [(.ref a)])) rfl (by rw [hml]; rfl) rfl (hb hby own_d2_1) (by decide) (W := 0) (by show 2 * 0 + _ ≤ _; exact Nat.le_of_eq rfl) (by decide)
  refine own_st (T' := T1) (f' := (mkF m 4 #[(.val (.ref a)), (.val (.int i))] [])) st1 ?_
  refine own_st (T' := T1) (f' := (mkF m 5 #[(.val (.ref a)), (.val (.int i))] [(.ref a)])) (fun _ kont => XS.aloadN X1.here hx rfl (hb hby own_d2_4) rfl rfl kont) ?_
  refine own_st (T' := T1) (f' := (mkF m 6 #[(.val (.ref a)), (.val (.int i))] [(.int i), (.ref a)])) (fun _ kont => XS.iloadN X1.here hx rfl (hb hby own_d2_5) rfl kont) ?_
  obtain ⟨T2, h2, X2, e2, W2, st2⟩ := putF X1 hx hZ hown (host := "") (Or.inl (hw _ (List.mem_of_getElem? (i := 14) rfl))) Via.refl e1 F0_value E0 (Or.inr ⟨(hw _ (List.mem_of_getElem? (i := 15) rfl)), rfl, hnm⟩) (hw _ (List.mem_of_getElem? (i := 7) rfl)) (ty := .int) (by decide) rfl rfl (g := (mkF m 6 #[(.val (.ref a)), (.val (.int i))] [(.int i), (.ref a)])) rfl rfl (hb hby own_d2_6)
  have Fw2 := F0_value.same W2
  have N_2 := Fr.snoc X2 (Fr.nil _) ga
  have KP2 : Keep h0 h2 [a] := (Keep.refl h0 [a]).wr W2 (Or.inl (List.mem_of_getElem? (i := 0) rfl))
  have Y3 := E0.wr W2
  refine own_st (T' := T2) (f' := (mkF m 9 #[(.val (.ref a)), (.val (.int i))] [])) st2 ?_
  exact own_retV X2 hx hlk hret (hb hby own_d2_9) ⟨rfl, N_2, by rw [e2]; exact KP2, by rw [e2]; exact Y3, by rw [e2]; exact Fw2⟩ (by decide) (by decide)
theorem own_d1_0 : decode prog_10_method_2_code 0 = .ok (.iload_n 0, 1) := by decide +kernel
theorem own_d1_1 : decode prog_10_method_2_code 1 = .ok (.ifCond .lt 9, 3) := by decide +kernel
theorem own_d1_4 : decode prog_10_method_2_code 4 = .ok (.iload_n 0, 1) := by decide +kernel
theorem own_d1_5 : decode prog_10_method_2_code 5 = .ok (.ldc 15, 2) := by decide +kernel
theorem own_d1_7 : decode prog_10_method_2_code 7 = .ok (.if_icmp .ne 17, 3) := by decide +kernel
theorem own_d1_24 : decode prog_10_method_2_code 24 = .ok (.new 8, 3) := by decide +kernel
theorem own_d1_27 : decode prog_10_method_2_code 27 = .ok (.dup, 1) := by decide +kernel
theorem own_d1_28 : decode prog_10_method_2_code 28 = .ok (.iload_n 0, 1) := by decide +kernel
theorem own_d1_29 : decode prog_10_method_2_code 29 = .ok (.invokespecial 25, 3) := by decide +kernel
theorem own_pd5 : parseMethodDescriptor "(I)V" = some ⟨[.int], none⟩ := by decide +kernel
theorem own_d1_32 : decode prog_10_method_2_code 32 = .ok (.areturn, 1) := by decide +kernel
theorem own_pn1 : plainFor (⟨"com/example/unless/unless/reasoning/Rank", "of", "(I)Lcom/example/unless/unless/reasoning/Rank;"⟩ : MethodName) = true := plainFor_of_name (by first | (simp [plainName, overriddenIn]; done) | decide +kernel)
set_option maxRecDepth 65536 in
set_option maxHeartbeats 40000000 in
theorem own_of (l : Launch) (Z : State) (a0 : Array Value) (hw : ∀ d ∈ tables_1, d.before a0 Z = true) (i : Int32) (h0 : Heap) (hi0 : ¬ i < (0 : Int32)) (hiM : ¬ i = (2147483647 : Int32)) :
    own_C l (⟨"com/example/unless/unless/reasoning/Rank", "of", "(I)Lcom/example/unless/unless/reasoning/Rank;"⟩ : MethodName) prog_10_method_2_code 1 (some (.object "com/example/unless/unless/reasoning/Rank")) (own_R 2 1 1 26) Z h0 #[(.int i)] (fun v h L => ∃ a, v = some (.ref a) ∧ h0.size ≤ a ∧ Ext h0 h ∧ Exa Z h a "com/example/unless/unless/reasoning/Rank" ∧ Fld Z h a "com/example/unless/unless/reasoning/Rank" "value" "I" (.int i) ∧ Fr h0.size L) := by
  refine own_body own_pn1 ?_
  intro p e s m below meth c s₁ hx hby hml hZ hown hnm hret hlk X0 e0
  refine own_cast (f' := (mkF m 0 #[(.val (.int i))] [])) (by first | (simp [entryFrame, mkF, argsToLocals, Value.category, maxLocals]; done) | rfl) ?_
  refine own_st (T' := s₁) (f' := (mkF m 1 #[(.val (.int i))] [(.int i)])) (fun _ kont => XS.iloadN X0.here hx rfl (hb hby own_d1_0) rfl kont) ?_
  refine own_st (T' := s₁) (f' := (mkF m 4 #[(.val (.int i))] [])) (fun _ kont => XS.ifNo X0.here hx rfl (hb hby own_d1_1) rfl ((if0 _ _).trans (flt hi0).1) kont) ?_
  refine own_st (T' := s₁) (f' := (mkF m 5 #[(.val (.int i))] [(.int i)])) (fun _ kont => XS.iloadN X0.here hx rfl (hb hby own_d1_4) rfl kont) ?_
  refine own_st (T' := s₁) (f' := (mkF m 7 #[(.val (.int i))] [(.int (2147483647 : Int32)), (.int i)])) (fun _ kont => X0.ldcInt hx hown (mvT hZ (hw _ (List.mem_of_getElem? (i := 5) rfl))) (g := (mkF m 5 #[(.val (.int i))] [(.int i)])) rfl (hb hby own_d1_5) _ kont) ?_
  refine own_st (T' := s₁) (f' := (mkF m 24 #[(.val (.int i))] [])) (fun _ kont => XS.icmpYes X0.here hx rfl (pc0 := 7) (pc' := 24) rfl (hb hby own_d1_7) rfl (feq hiM).2 (by decide) (by decide) kont) ?_
  obtain ⟨T1, h1, X1, e1, E1, A1, D1, -, st1⟩ := newO X0 hx hZ hown (hw _ (List.mem_of_getElem? (i := 6) rfl)) (hw _ (List.mem_of_getElem? (i := 7) rfl)) (hw _ (List.mem_of_getElem? (i := 3) rfl)) e0 (g := (mkF m 24 #[(.val (.int i))] [])) rfl (hb hby own_d1_24) (by decide) (by decide)
  obtain ⟨b1, g1⟩ : ∃ z, z = h0.size := ⟨_, rfl⟩
  rw [← g1] at A1 D1 st1
  have z_b1 : h0.size ≤ b1 := (Nat.le_of_eq g1.symm)
  have EX1 : Ext h0 h1 := E1
  have F1_value : Fld Z h1 b1 "com/example/unless/unless/reasoning/Rank" "value" "I" (.int (0 : Int32)) := D1 (Or.inr (hw _ (List.mem_of_getElem? (i := 15) rfl))) (ty := .int) (by decide)
  refine own_st (T' := T1) (f' := (mkF m 27 #[(.val (.int i))] [(.ref b1)])) st1 ?_
  refine own_st (T' := T1) (f' := (mkF m 28 #[(.val (.int i))] [(.ref b1), (.ref b1)])) (fun _ kont => XS.dup X1.here hx rfl (hb hby own_d1_27) rfl rfl kont) ?_
  refine own_st (T' := T1) (f' := (mkF m 29 #[(.val (.int i))] [(.int i), (.ref b1), (.ref b1)])) (fun _ kont => XS.iloadN X1.here hx rfl (hb hby own_d1_28) rfl kont) ?_
  obtain ⟨v2, T2, L2, hQ2, X2, st2⟩ := own_callN X1 hx hZ e1 hown rfl (hw _ (List.mem_of_getElem? (i := 8) rfl)) (hw _ (List.mem_of_getElem? (i := 9) rfl)) (by decide) (a := b1) (hw _ (List.mem_of_getElem? (i := 10) rfl)) (hw _ (List.mem_of_getElem? (i := 3) rfl)) (own_init l Z a0 hw b1 i  h1 h0.size z_b1 A1 F1_value ) (g := (mkF m 29 #[(.val (.int i))] [(.int i), (.ref b1), (.ref b1)])) rfl (by rw [hml]; rfl) rfl (argsL := [(.int i)]) (rest := [(.ref b1)]) rfl (lenOf own_pd5 rfl) rfl (hb hby own_d1_29) (Nat.le_of_ble_eq_true rfl) (Nat.le_of_ble_eq_true rfl) (Nat.le_of_ble_eq_true rfl) (Nat.le_of_ble_eq_true rfl)
  obtain ⟨h2, e2⟩ : ∃ z, T2.heap = z := ⟨_, rfl⟩
  rw [e2] at hQ2
  obtain ⟨rfl, N2, K2, Ee2, Fq2_0⟩ := hQ2
  have N_2 := Fr.app (Fr.nil _) N2
  have Y3 := A1.keep K2
  have EX2 : Ext h0 h2 := own_extK EX1 K2 (allS z_b1 all0)
  refine own_st (T' := T2) (f' := (mkF m 32 #[(.val (.int i))] [(.ref b1)])) st2 ?_
  exact own_retA X2 hx hlk hret rfl rfl (hb hby own_d1_32) ⟨b1, rfl, z_b1, by rw [e2]; exact EX2, by rw [e2]; exact Ee2, by rw [e2]; exact Fq2_0, N_2⟩ (by decide) (by decide)
theorem own_pn0 : plainFor (⟨"com/example/unless/unless/reasoning/RankOfPinLaw", "law", "(III)Z"⟩ : MethodName) = true := plainFor_of_name (by first | (simp [plainName, overriddenIn]; done) | decide +kernel)
theorem own_pd4 : parseMethodDescriptor "(I)Lcom/example/unless/unless/reasoning/Rank;" = some ⟨[.int], some (.object "com/example/unless/unless/reasoning/Rank")⟩ := by decide +kernel
theorem own_d4_0 : decode prog_10_method_3_code 0 = .ok (.aload_n 0, 1) := by decide +kernel
theorem own_d4_1 : decode prog_10_method_3_code 1 = .ok (.getfield 7, 3) := by decide +kernel
theorem own_d4_4 : decode prog_10_method_3_code 4 = .ok (.ldc 15, 2) := by decide +kernel
theorem own_d4_6 : decode prog_10_method_3_code 6 = .ok (.if_icmp .ne 7, 3) := by decide +kernel
theorem own_d4_9 : decode prog_10_method_3_code 9 = .ok (.iconst 1, 1) := by decide +kernel
theorem own_d4_10 : decode prog_10_method_3_code 10 = .ok (.goto 4, 3) := by decide +kernel
theorem own_d4_14 : decode prog_10_method_3_code 14 = .ok (.ireturn, 1) := by decide +kernel
theorem own_d4_13 : decode prog_10_method_3_code 13 = .ok (.iconst 0, 1) := by decide +kernel
theorem own_pn4 : plainFor (⟨"com/example/unless/unless/reasoning/Rank", "isInfinite", "()Z"⟩ : MethodName) = true := plainFor_of_name (by first | (simp [plainName, overriddenIn]; done) | decide +kernel)
set_option maxRecDepth 65536 in
set_option maxHeartbeats 40000000 in
theorem own_k4_1 (l : Launch) (Z : State) (a0 : Array Value) (hw : ∀ d ∈ tables_1, d.before a0 Z = true) (p0 : Addr) (p1 : Int32) (h0 : Heap) (H0 : Fld Z h0 p0 "com/example/unless/unless/reasoning/Rank" "value" "I" (.int p1)) :
    own_C l (⟨"com/example/unless/unless/reasoning/Rank", "isInfinite", "()Z"⟩ : MethodName) prog_10_method_3_code 1 (some .boolean) (own_R 0 0 0 0) Z h0 #[(.ref p0)] (own_P (some (if p1 = (2147483647 : Int32) then (.int (1 : Int32)) else (.int (0 : Int32)))) h0) := by
  refine own_body own_pn4 ?_
  intro p e s m below meth c s₁ hx hby hml hZ hown hnm hret hlk X0 e0
  refine own_cast (f' := (mkF m 0 #[(.val (.ref p0))] [])) (by first | (simp [entryFrame, mkF, argsToLocals, Value.category, maxLocals]; done) | rfl) ?_
  refine own_st (T' := s₁) (f' := (mkF m 1 #[(.val (.ref p0))] [(.ref p0)])) (fun _ kont => XS.aloadN X0.here hx rfl (hb hby own_d4_0) rfl rfl kont) ?_
  obtain ⟨T1, X1, e1, st1⟩ := getF X0 hx hZ hown (host := "") (Or.inl (hw _ (List.mem_of_getElem? (i := 14) rfl))) Via.refl e0 H0 (g := (mkF m 1 #[(.val (.ref p0))] [(.ref p0)])) rfl rfl (hb hby own_d4_1)
  refine own_st (T' := T1) (f' := (mkF m 4 #[(.val (.ref p0))] [(.int p1)])) st1 ?_
  refine own_st (T' := T1) (f' := (mkF m 6 #[(.val (.ref p0))] [(.int (2147483647 : Int32)), (.int p1)])) (fun _ kont => X1.ldcInt hx hown (mvT hZ (hw _ (List.mem_of_getElem? (i := 5) rfl))) (g := (mkF m 4 #[(.val (.ref p0))] [(.int p1)])) rfl (hb hby own_d4_4) _ kont) ?_
  by_cases c0 : p1 = (2147483647 : Int32)
  · refine own_st (T' := T1) (f' := (mkF m 9 #[(.val (.ref p0))] [])) (fun _ kont => XS.icmpNo X1.here hx rfl (hb hby own_d4_6) rfl (teq c0).2 kont) ?_
    refine own_st (T' := T1) (f' := (mkF m 10 #[(.val (.ref p0))] [(.int (1 : Int32))])) (fun _ kont => XS.iconst X1.here hx rfl (hb hby own_d4_9) kont) ?_
    refine own_st (T' := T1) (f' := (mkF m 14 #[(.val (.ref p0))] [(.int (1 : Int32))])) (fun _ kont => XS.goto X1.here hx rfl (pc0 := 10) (pc' := 14) rfl (hb hby own_d4_10) (by decide) (by decide) kont) ?_
    exact own_retN X1 hx hlk (t := .boolean) hret (by simp) (hb hby own_d4_14) ⟨by simp only [if_pos c0]; rfl, rfl, e1⟩ (by decide) (by decide)
  · refine own_st (T' := T1) (f' := (mkF m 13 #[(.val (.ref p0))] [])) (fun _ kont => XS.icmpYes X1.here hx rfl (pc0 := 6) (pc' := 13) rfl (hb hby own_d4_6) rfl (feq c0).2 (by decide) (by decide) kont) ?_
    refine own_st (T' := T1) (f' := (mkF m 14 #[(.val (.ref p0))] [(.int (0 : Int32))])) (fun _ kont => XS.iconst X1.here hx rfl (hb hby own_d4_13) kont) ?_
    exact own_retN X1 hx hlk (t := .boolean) hret (by simp) (hb hby own_d4_14) ⟨by simp only [if_neg c0]; rfl, rfl, e1⟩ (by decide) (by decide)
theorem own_pd2 : parseMethodDescriptor "()Z" = some ⟨[], some .boolean⟩ := by decide +kernel
theorem own_d5_0 : decode prog_10_method_4_code 0 = .ok (.aload_n 0, 1) := by decide +kernel
theorem own_d5_1 : decode prog_10_method_4_code 1 = .ok (.invokevirtual 28, 3) := by decide +kernel
theorem own_d5_4 : decode prog_10_method_4_code 4 = .ok (.ifCond .eq 13, 3) := by decide +kernel
theorem own_d5_17 : decode prog_10_method_4_code 17 = .ok (.aload_n 0, 1) := by decide +kernel
theorem own_d5_18 : decode prog_10_method_4_code 18 = .ok (.getfield 7, 3) := by decide +kernel
theorem own_d5_21 : decode prog_10_method_4_code 21 = .ok (.ireturn, 1) := by decide +kernel
theorem own_pn5 : plainFor (⟨"com/example/unless/unless/reasoning/Rank", "value", "()I"⟩ : MethodName) = true := plainFor_of_name (by first | (simp [plainName, overriddenIn]; done) | decide +kernel)
set_option maxRecDepth 65536 in
set_option maxHeartbeats 40000000 in
theorem own_k5_2 (l : Launch) (Z : State) (a0 : Array Value) (hw : ∀ d ∈ tables_1, d.before a0 Z = true) (p0 : Addr) (p1 : Int32) (h0 : Heap) (H0 : Exa Z h0 p0 "com/example/unless/unless/reasoning/Rank") (H1 : Fld Z h0 p0 "com/example/unless/unless/reasoning/Rank" "value" "I" (.int p1)) (H2 : ¬ (p1 = (2147483647 : Int32))) :
    own_C l (⟨"com/example/unless/unless/reasoning/Rank", "value", "()I"⟩ : MethodName) prog_10_method_4_code 1 (some .int) (own_R 1 0 0 12) Z h0 #[(.ref p0)] (own_P (some (.int p1)) h0) := by
  refine own_body own_pn5 ?_
  intro p e s m below meth c s₁ hx hby hml hZ hown hnm hret hlk X0 e0
  refine own_cast (f' := (mkF m 0 #[(.val (.ref p0))] [])) (by first | (simp [entryFrame, mkF, argsToLocals, Value.category, maxLocals]; done) | rfl) ?_
  refine own_st (T' := s₁) (f' := (mkF m 1 #[(.val (.ref p0))] [(.ref p0)])) (fun _ kont => XS.aloadN X0.here hx rfl (hb hby own_d5_0) rfl rfl kont) ?_
  obtain ⟨v1, T1, L1, hQ1, X1, st1⟩ := own_callV X0 hx hZ e0 hown (hw _ (List.mem_of_getElem? (i := 26) rfl)) (hw _ (List.mem_of_getElem? (i := 17) rfl)) (hw _ (List.mem_of_getElem? (i := 19) rfl)) (hw _ (List.mem_of_getElem? (i := 18) rfl)) (by decide) (b := p0) H0 (hw _ (List.mem_of_getElem? (i := 20) rfl)) (hw _ (List.mem_of_getElem? (i := 3) rfl)) (own_k4_1 l Z a0 hw p0 p1 h0 H1) (g := (mkF m 1 #[(.val (.ref p0))] [(.ref p0)])) rfl (by rw [hml]; rfl) rfl (argsL := []) (rest := []) rfl (lenOf own_pd2 rfl) rfl (hb hby own_d5_1) (Nat.le_of_ble_eq_true rfl) (Nat.le_of_ble_eq_true rfl) (Nat.le_of_ble_eq_true rfl) (Nat.le_of_ble_eq_true rfl)
  obtain ⟨rfl, rfl, e1⟩ := hQ1
  rw [List.append_nil] at X1
  rw [if_neg H2] at st1
  refine own_st (T' := T1) (f' := (mkF m 4 #[(.val (.ref p0))] [(.int (0 : Int32))])) st1 ?_
  refine own_st (T' := T1) (f' := (mkF m 17 #[(.val (.ref p0))] [])) (fun _ kont => XS.ifYes X1.here hx rfl (pc0 := 4) (pc' := 17) rfl (hb hby own_d5_4) rfl ((if0 _ _).trans (teq (by decide : (0 : Int32) = (0 : Int32))).1) (by decide) (by decide) kont) ?_
  refine own_st (T' := T1) (f' := (mkF m 18 #[(.val (.ref p0))] [(.ref p0)])) (fun _ kont => XS.aloadN X1.here hx rfl (hb hby own_d5_17) rfl rfl kont) ?_
  obtain ⟨T2, X2, e2, st2⟩ := getF X1 hx hZ hown (host := "") (Or.inl (hw _ (List.mem_of_getElem? (i := 14) rfl))) Via.refl e1 H1 (g := (mkF m 18 #[(.val (.ref p0))] [(.ref p0)])) rfl rfl (hb hby own_d5_18)
  refine own_st (T' := T2) (f' := (mkF m 21 #[(.val (.ref p0))] [(.int p1)])) st2 ?_
  exact own_retI X2 hx hlk hret (hb hby own_d5_21) ⟨rfl, rfl, e2⟩ (by decide) (by decide)
theorem own_pd0 : parseMethodDescriptor "()I" = some ⟨[], some .int⟩ := by decide +kernel
theorem own_d6_0 : decode prog_10_method_5_code 0 = .ok (.aload_n 0, 1) := by decide +kernel
theorem own_d6_1 : decode prog_10_method_5_code 1 = .ok (.getfield 7, 3) := by decide +kernel
theorem own_d6_4 : decode prog_10_method_5_code 4 = .ok (.aload_n 1, 1) := by decide +kernel
theorem own_d6_5 : decode prog_10_method_5_code 5 = .ok (.getfield 7, 3) := by decide +kernel
theorem own_d6_8 : decode prog_10_method_5_code 8 = .ok (.invokestatic 37, 3) := by decide +kernel
theorem own_d7_0 : decode jdk_33_method_40_code 0 = .ok (.iload_n 0, 1) := by decide +kernel
theorem own_d7_1 : decode jdk_33_method_40_code 1 = .ok (.iload_n 1, 1) := by decide +kernel
theorem own_d7_2 : decode jdk_33_method_40_code 2 = .ok (.if_icmp .ge 7, 3) := by decide +kernel
theorem own_d7_5 : decode jdk_33_method_40_code 5 = .ok (.iconst (-1), 1) := by decide +kernel
theorem own_d7_6 : decode jdk_33_method_40_code 6 = .ok (.goto 13, 3) := by decide +kernel
theorem own_d7_19 : decode jdk_33_method_40_code 19 = .ok (.ireturn, 1) := by decide +kernel
theorem own_d7_9 : decode jdk_33_method_40_code 9 = .ok (.iload_n 0, 1) := by decide +kernel
theorem own_d7_10 : decode jdk_33_method_40_code 10 = .ok (.iload_n 1, 1) := by decide +kernel
theorem own_d7_11 : decode jdk_33_method_40_code 11 = .ok (.if_icmp .ne 7, 3) := by decide +kernel
theorem own_d7_14 : decode jdk_33_method_40_code 14 = .ok (.iconst 0, 1) := by decide +kernel
theorem own_d7_15 : decode jdk_33_method_40_code 15 = .ok (.goto 4, 3) := by decide +kernel
theorem own_d7_18 : decode jdk_33_method_40_code 18 = .ok (.iconst 1, 1) := by decide +kernel
theorem own_pn7 : plainFor (⟨"java/lang/Integer", "compare", "(II)I"⟩ : MethodName) = true := plainFor_of_name (by first | (simp [plainName, overriddenIn]; done) | decide +kernel)
set_option maxRecDepth 65536 in
set_option maxHeartbeats 40000000 in
theorem own_k7_4 (l : Launch) (Z : State) (a0 : Array Value) (hw : ∀ d ∈ tables_1, d.before a0 Z = true) (p0 : Int32) (p1 : Int32) (h0 : Heap)  :
    own_C l (⟨"java/lang/Integer", "compare", "(II)I"⟩ : MethodName) jdk_33_method_40_code 2 (some .int) (own_R 0 0 0 0) Z h0 #[(.int p0), (.int p1)] (own_P (some (if p0 < p1 then (.int (-1 : Int32)) else (if p0 = p1 then (.int (0 : Int32)) else (.int (1 : Int32))))) h0) := by
  refine own_body own_pn7 ?_
  intro p e s m below meth c s₁ hx hby hml hZ hown hnm hret hlk X0 e0
  refine own_cast (f' := (mkF m 0 #[(.val (.int p0)), (.val (.int p1))] [])) (by first | (simp [entryFrame, mkF, argsToLocals, Value.category, maxLocals]; done) | rfl) ?_
  refine own_st (T' := s₁) (f' := (mkF m 1 #[(.val (.int p0)), (.val (.int p1))] [(.int p0)])) (fun _ kont => XS.iloadN X0.here hx rfl (hb hby own_d7_0) rfl kont) ?_
  refine own_st (T' := s₁) (f' := (mkF m 2 #[(.val (.int p0)), (.val (.int p1))] [(.int p1), (.int p0)])) (fun _ kont => XS.iloadN X0.here hx rfl (hb hby own_d7_1) rfl kont) ?_
  by_cases c0 : p0 < p1
  · refine own_st (T' := s₁) (f' := (mkF m 5 #[(.val (.int p0)), (.val (.int p1))] [])) (fun _ kont => XS.icmpNo X0.here hx rfl (hb hby own_d7_2) rfl (tlt c0).2.1 kont) ?_
    refine own_st (T' := s₁) (f' := (mkF m 6 #[(.val (.int p0)), (.val (.int p1))] [(.int (-1 : Int32))])) (fun _ kont => XS.iconst X0.here hx rfl (hb hby own_d7_5) kont) ?_
    refine own_st (T' := s₁) (f' := (mkF m 19 #[(.val (.int p0)), (.val (.int p1))] [(.int (-1 : Int32))])) (fun _ kont => XS.goto X0.here hx rfl (pc0 := 6) (pc' := 19) rfl (hb hby own_d7_6) (by decide) (by decide) kont) ?_
    exact own_retI X0 hx hlk hret (hb hby own_d7_19) ⟨by simp only [if_pos c0], rfl, e0⟩ (by decide) (by decide)
  · refine own_st (T' := s₁) (f' := (mkF m 9 #[(.val (.int p0)), (.val (.int p1))] [])) (fun _ kont => XS.icmpYes X0.here hx rfl (pc0 := 2) (pc' := 9) rfl (hb hby own_d7_2) rfl (flt c0).2.1 (by decide) (by decide) kont) ?_
    refine own_st (T' := s₁) (f' := (mkF m 10 #[(.val (.int p0)), (.val (.int p1))] [(.int p0)])) (fun _ kont => XS.iloadN X0.here hx rfl (hb hby own_d7_9) rfl kont) ?_
    refine own_st (T' := s₁) (f' := (mkF m 11 #[(.val (.int p0)), (.val (.int p1))] [(.int p1), (.int p0)])) (fun _ kont => XS.iloadN X0.here hx rfl (hb hby own_d7_10) rfl kont) ?_
    by_cases c1 : p0 = p1
    · refine own_st (T' := s₁) (f' := (mkF m 14 #[(.val (.int p0)), (.val (.int p1))] [])) (fun _ kont => XS.icmpNo X0.here hx rfl (hb hby own_d7_11) rfl (teq c1).2 kont) ?_
      refine own_st (T' := s₁) (f' := (mkF m 15 #[(.val (.int p0)), (.val (.int p1))] [(.int (0 : Int32))])) (fun _ kont => XS.iconst X0.here hx rfl (hb hby own_d7_14) kont) ?_
      refine own_st (T' := s₁) (f' := (mkF m 19 #[(.val (.int p0)), (.val (.int p1))] [(.int (0 : Int32))])) (fun _ kont => XS.goto X0.here hx rfl (pc0 := 15) (pc' := 19) rfl (hb hby own_d7_15) (by decide) (by decide) kont) ?_
      exact own_retI X0 hx hlk hret (hb hby own_d7_19) ⟨by simp only [if_neg c0, if_pos c1], rfl, e0⟩ (by decide) (by decide)
    · refine own_st (T' := s₁) (f' := (mkF m 18 #[(.val (.int p0)), (.val (.int p1))] [])) (fun _ kont => XS.icmpYes X0.here hx rfl (pc0 := 11) (pc' := 18) rfl (hb hby own_d7_11) rfl (feq c1).2 (by decide) (by decide) kont) ?_
      refine own_st (T' := s₁) (f' := (mkF m 19 #[(.val (.int p0)), (.val (.int p1))] [(.int (1 : Int32))])) (fun _ kont => XS.iconst X0.here hx rfl (hb hby own_d7_18) kont) ?_
      exact own_retI X0 hx hlk hret (hb hby own_d7_19) ⟨by simp only [if_neg c0, if_neg c1], rfl, e0⟩ (by decide) (by decide)
theorem own_pd6 : parseMethodDescriptor "(II)I" = some ⟨[.int, .int], some .int⟩ := by decide +kernel
theorem own_d6_11 : decode prog_10_method_5_code 11 = .ok (.ireturn, 1) := by decide +kernel
theorem own_pn6 : plainFor (⟨"com/example/unless/unless/reasoning/Rank", "compareTo", "(Lcom/example/unless/unless/reasoning/Rank;)I"⟩ : MethodName) = true := plainFor_of_name (by first | (simp [plainName, overriddenIn]; done) | decide +kernel)
set_option maxRecDepth 65536 in
set_option maxHeartbeats 40000000 in
theorem own_k6_3 (l : Launch) (Z : State) (a0 : Array Value) (hw : ∀ d ∈ tables_1, d.before a0 Z = true) (p0 : Addr) (p1 : Addr) (p2 : Int32) (p3 : Int32) (h0 : Heap) (H0 : Fld Z h0 p0 "com/example/unless/unless/reasoning/Rank" "value" "I" (.int p2)) (H1 : Fld Z h0 p1 "com/example/unless/unless/reasoning/Rank" "value" "I" (.int p3)) :
    own_C l (⟨"com/example/unless/unless/reasoning/Rank", "compareTo", "(Lcom/example/unless/unless/reasoning/Rank;)I"⟩ : MethodName) prog_10_method_5_code 2 (some .int) (own_R 1 0 0 13) Z h0 #[(.ref p0), (.ref p1)] (own_P (some (if p2 < p3 then (.int (-1 : Int32)) else (if p2 = p3 then (.int (0 : Int32)) else (.int (1 : Int32))))) h0) := by
  refine own_body own_pn6 ?_
  intro p e s m below meth c s₁ hx hby hml hZ hown hnm hret hlk X0 e0
  refine own_cast (f' := (mkF m 0 #[(.val (.ref p0)), (.val (.ref p1))] [])) (by first | (simp [entryFrame, mkF, argsToLocals, Value.category, maxLocals]; done) | rfl) ?_
  refine own_st (T' := s₁) (f' := (mkF m 1 #[(.val (.ref p0)), (.val (.ref p1))] [(.ref p0)])) (fun _ kont => XS.aloadN X0.here hx rfl (hb hby own_d6_0) rfl rfl kont) ?_
  obtain ⟨T1, X1, e1, st1⟩ := getF X0 hx hZ hown (host := "") (Or.inl (hw _ (List.mem_of_getElem? (i := 14) rfl))) Via.refl e0 H0 (g := (mkF m 1 #[(.val (.ref p0)), (.val (.ref p1))] [(.ref p0)])) rfl rfl (hb hby own_d6_1)
  refine own_st (T' := T1) (f' := (mkF m 4 #[(.val (.ref p0)), (.val (.ref p1))] [(.int p2)])) st1 ?_
  refine own_st (T' := T1) (f' := (mkF m 5 #[(.val (.ref p0)), (.val (.ref p1))] [(.ref p1), (.int p2)])) (fun _ kont => XS.aloadN X1.here hx rfl (hb hby own_d6_4) rfl rfl kont) ?_
  obtain ⟨T2, X2, e2, st2⟩ := getF X1 hx hZ hown (host := "") (Or.inl (hw _ (List.mem_of_getElem? (i := 14) rfl))) Via.refl e1 H1 (g := (mkF m 5 #[(.val (.ref p0)), (.val (.ref p1))] [(.ref p1), (.int p2)])) rfl rfl (hb hby own_d6_5)
  refine own_st (T' := T2) (f' := (mkF m 8 #[(.val (.ref p0)), (.val (.ref p1))] [(.int p3), (.int p2)])) st2 ?_
  obtain ⟨v3, T3, L3, hQ3, X3, st3⟩ := own_callS X2 hx hZ e2 hown (hw _ (List.mem_of_getElem? (i := 32) rfl)) (hw _ (List.mem_of_getElem? (i := 33) rfl)) (by decide) (hw _ (List.mem_of_getElem? (i := 35) rfl)) (hw _ (List.mem_of_getElem? (i := 34) rfl)) (own_k7_4 l Z a0 hw p2 p3 h0 ) (g := (mkF m 8 #[(.val (.ref p0)), (.val (.ref p1))] [(.int p3), (.int p2)])) rfl (by rw [hml]; rfl) rfl (argsL := [(.int p2), (.int p3)]) (rest := []) rfl (lenOf own_pd6 rfl) rfl (hb hby own_d6_8) (Nat.le_of_ble_eq_true rfl) (Nat.le_of_ble_eq_true rfl) (Nat.le_of_ble_eq_true rfl) (Nat.le_of_ble_eq_true rfl)
  obtain ⟨rfl, rfl, e3⟩ := hQ3
  rw [List.append_nil] at X3
  by_cases c0 : p2 < p3
  · rw [if_pos c0] at st3
    refine own_st (T' := T3) (f' := (mkF m 11 #[(.val (.ref p0)), (.val (.ref p1))] [(.int (-1 : Int32))])) st3 ?_
    exact own_retI X3 hx hlk hret (hb hby own_d6_11) ⟨by simp only [if_pos c0], rfl, e3⟩ (by decide) (by decide)
  · rw [if_neg c0] at st3
    by_cases c1 : p2 = p3
    · rw [if_pos c1] at st3
      refine own_st (T' := T3) (f' := (mkF m 11 #[(.val (.ref p0)), (.val (.ref p1))] [(.int (0 : Int32))])) st3 ?_
      exact own_retI X3 hx hlk hret (hb hby own_d6_11) ⟨by simp only [if_neg c0, if_pos c1], rfl, e3⟩ (by decide) (by decide)
    · rw [if_neg c1] at st3
      refine own_st (T' := T3) (f' := (mkF m 11 #[(.val (.ref p0)), (.val (.ref p1))] [(.int (1 : Int32))])) st3 ?_
      exact own_retI X3 hx hlk hret (hb hby own_d6_11) ⟨by simp only [if_neg c0, if_neg c1], rfl, e3⟩ (by decide) (by decide)
theorem own_pd7 : parseMethodDescriptor "(Lcom/example/unless/unless/reasoning/Rank;)I" = some ⟨[(.object "com/example/unless/unless/reasoning/Rank")], some .int⟩ := by decide +kernel
theorem own_d8_0 : decode method_2_code 0 = .ok (.iload_n 0, 1) := by decide +kernel
theorem own_d8_1 : decode method_2_code 1 = .ok (.ifCond .ge 5, 3) := by decide +kernel
theorem own_d8_4 : decode method_2_code 4 = .ok (.iconst (-1), 1) := by decide +kernel
theorem own_d8_5 : decode method_2_code 5 = .ok (.ireturn, 1) := by decide +kernel
theorem own_pn8 : plainFor (⟨"com/example/unless/unless/reasoning/RankOfPinLaw", "sign", "(I)I"⟩ : MethodName) = true := plainFor_of_name (by first | (simp [plainName, overriddenIn]; done) | decide +kernel)
set_option maxRecDepth 65536 in
set_option maxHeartbeats 40000000 in
theorem own_k8_5 (l : Launch) (Z : State) (a0 : Array Value) (hw : ∀ d ∈ tables_1, d.before a0 Z = true)  (h0 : Heap)  :
    own_C l (⟨"com/example/unless/unless/reasoning/RankOfPinLaw", "sign", "(I)I"⟩ : MethodName) method_2_code 1 (some .int) (own_R 0 0 0 0) Z h0 #[(.int (-1 : Int32))] (own_P (some (.int (-1 : Int32))) h0) := by
  refine own_body own_pn8 ?_
  intro p e s m below meth c s₁ hx hby hml hZ hown hnm hret hlk X0 e0
  refine own_cast (f' := (mkF m 0 #[(.val (.int (-1 : Int32)))] [])) (by first | (simp [entryFrame, mkF, argsToLocals, Value.category, maxLocals]; done) | rfl) ?_
  refine own_st (T' := s₁) (f' := (mkF m 1 #[(.val (.int (-1 : Int32)))] [(.int (-1 : Int32))])) (fun _ kont => XS.iloadN X0.here hx rfl (hb hby own_d8_0) rfl kont) ?_
  refine own_st (T' := s₁) (f' := (mkF m 4 #[(.val (.int (-1 : Int32)))] [])) (fun _ kont => XS.ifNo X0.here hx rfl (hb hby own_d8_1) rfl ((if0 _ _).trans (tlt (by decide : (-1 : Int32) < (0 : Int32))).2.1) kont) ?_
  refine own_st (T' := s₁) (f' := (mkF m 5 #[(.val (.int (-1 : Int32)))] [(.int (-1 : Int32))])) (fun _ kont => XS.iconst X0.here hx rfl (hb hby own_d8_4) kont) ?_
  exact own_retI X0 hx hlk hret (hb hby own_d8_5) ⟨rfl, rfl, e0⟩ (by decide) (by decide)
theorem own_pd3 : parseMethodDescriptor "(I)I" = some ⟨[.int], some .int⟩ := by decide +kernel
theorem own_d9_0 : decode prog_10_method_6_code 0 = .ok (.aload_n 1, 1) := by decide +kernel
theorem own_d9_1 : decode prog_10_method_6_code 1 = .ok (.instanceof 8, 3) := by decide +kernel
theorem own_d9_4 : decode prog_10_method_6_code 4 = .ok (.ifCond .eq 23, 3) := by decide +kernel
theorem own_d9_7 : decode prog_10_method_6_code 7 = .ok (.aload_n 1, 1) := by decide +kernel
theorem own_d9_8 : decode prog_10_method_6_code 8 = .ok (.checkcast 8, 3) := by decide +kernel
theorem own_d9_11 : decode prog_10_method_6_code 11 = .ok (.astore_n 2, 1) := by decide +kernel
theorem own_d9_12 : decode prog_10_method_6_code 12 = .ok (.aload_n 2, 1) := by decide +kernel
theorem own_d9_13 : decode prog_10_method_6_code 13 = .ok (.getfield 7, 3) := by decide +kernel
theorem own_d9_16 : decode prog_10_method_6_code 16 = .ok (.aload_n 0, 1) := by decide +kernel
theorem own_d9_17 : decode prog_10_method_6_code 17 = .ok (.getfield 7, 3) := by decide +kernel
theorem own_d9_20 : decode prog_10_method_6_code 20 = .ok (.if_icmp .ne 7, 3) := by decide +kernel
theorem own_d9_23 : decode prog_10_method_6_code 23 = .ok (.iconst 1, 1) := by decide +kernel
theorem own_d9_24 : decode prog_10_method_6_code 24 = .ok (.goto 4, 3) := by decide +kernel
theorem own_d9_28 : decode prog_10_method_6_code 28 = .ok (.ireturn, 1) := by decide +kernel
theorem own_d9_27 : decode prog_10_method_6_code 27 = .ok (.iconst 0, 1) := by decide +kernel
theorem own_pn9 : plainFor (⟨"com/example/unless/unless/reasoning/Rank", "equals", "(Ljava/lang/Object;)Z"⟩ : MethodName) = true := plainFor_of_name (by first | (simp [plainName, overriddenIn]; done) | decide +kernel)
set_option maxRecDepth 65536 in
set_option maxHeartbeats 40000000 in
theorem own_k9_6 (l : Launch) (Z : State) (a0 : Array Value) (hw : ∀ d ∈ tables_1, d.before a0 Z = true) (p0 : Addr) (p1 : Addr) (p2 : Int32) (p3 : Int32) (h0 : Heap) (H0 : Exa Z h0 p1 "com/example/unless/unless/reasoning/Rank") (H1 : Fld Z h0 p1 "com/example/unless/unless/reasoning/Rank" "value" "I" (.int p2)) (H2 : Fld Z h0 p0 "com/example/unless/unless/reasoning/Rank" "value" "I" (.int p3)) :
    own_C l (⟨"com/example/unless/unless/reasoning/Rank", "equals", "(Ljava/lang/Object;)Z"⟩ : MethodName) prog_10_method_6_code 3 (some .boolean) (own_R 0 0 0 0) Z h0 #[(.ref p0), (.ref p1)] (own_P (some (if p2 = p3 then (.int (1 : Int32)) else (.int (0 : Int32)))) h0) := by
  refine own_body own_pn9 ?_
  intro p e s m below meth c s₁ hx hby hml hZ hown hnm hret hlk X0 e0
  refine own_cast (f' := (mkF m 0 #[(.val (.ref p0)), (.val (.ref p1)), .unset] [])) (by first | (simp [entryFrame, mkF, argsToLocals, Value.category, maxLocals]; done) | rfl) ?_
  refine own_st (T' := s₁) (f' := (mkF m 1 #[(.val (.ref p0)), (.val (.ref p1)), .unset] [(.ref p1)])) (fun _ kont => XS.aloadN X0.here hx rfl (hb hby own_d9_0) rfl rfl kont) ?_
  obtain ⟨T1, X1, e1, st1⟩ := instY X0 hx hZ hown (hw _ (List.mem_of_getElem? (i := 6) rfl)) e0 (Ins.self H0) (g := (mkF m 1 #[(.val (.ref p0)), (.val (.ref p1)), .unset] [(.ref p1)])) rfl rfl (hb hby own_d9_1)
  refine own_st (T' := T1) (f' := (mkF m 4 #[(.val (.ref p0)), (.val (.ref p1)), .unset] [(.int (1 : Int32))])) st1 ?_
  refine own_st (T' := T1) (f' := (mkF m 7 #[(.val (.ref p0)), (.val (.ref p1)), .unset] [])) (fun _ kont => XS.ifNo X1.here hx rfl (hb hby own_d9_4) rfl ((if0 _ _).trans (feq (by decide : ¬ ((1 : Int32) = (0 : Int32)))).1) kont) ?_
  refine own_st (T' := T1) (f' := (mkF m 8 #[(.val (.ref p0)), (.val (.ref p1)), .unset] [(.ref p1)])) (fun _ kont => XS.aloadN X1.here hx rfl (hb hby own_d9_7) rfl rfl kont) ?_
  obtain ⟨T2, X2, e2, st2⟩ := castY X1 hx hZ hown (hw _ (List.mem_of_getElem? (i := 6) rfl)) e1 (Ins.self H0) (g := (mkF m 8 #[(.val (.ref p0)), (.val (.ref p1)), .unset] [(.ref p1)])) rfl rfl (hb hby own_d9_8)
  refine own_st (T' := T2) (f' := (mkF m 11 #[(.val (.ref p0)), (.val (.ref p1)), .unset] [(.ref p1)])) st2 ?_
  refine own_st (T' := T2) (f' := (mkF m 12 #[(.val (.ref p0)), (.val (.ref p1)), (.val (.ref p1))] [])) (fun _ kont => XS.astoreN X2.here hx rfl (hb hby own_d9_11) rfl rfl (l' := #[(.val (.ref p0)), (.val (.ref p1)), (.val (.ref p1))]) rfl kont) ?_
  refine own_st (T' := T2) (f' := (mkF m 13 #[(.val (.ref p0)), (.val (.ref p1)), (.val (.ref p1))] [(.ref p1)])) (fun _ kont => XS.aloadN X2.here hx rfl (hb hby own_d9_12) rfl rfl kont) ?_
  obtain ⟨T3, X3, e3, st3⟩ := getF X2 hx hZ hown (host := "") (Or.inl (hw _ (List.mem_of_getElem? (i := 14) rfl))) Via.refl e2 H1 (g := (mkF m 13 #[(.val (.ref p0)), (.val (.ref p1)), (.val (.ref p1))] [(.ref p1)])) rfl rfl (hb hby own_d9_13)
  refine own_st (T' := T3) (f' := (mkF m 16 #[(.val (.ref p0)), (.val (.ref p1)), (.val (.ref p1))] [(.int p2)])) st3 ?_
  refine own_st (T' := T3) (f' := (mkF m 17 #[(.val (.ref p0)), (.val (.ref p1)), (.val (.ref p1))] [(.ref p0), (.int p2)])) (fun _ kont => XS.aloadN X3.here hx rfl (hb hby own_d9_16) rfl rfl kont) ?_
  obtain ⟨T4, X4, e4, st4⟩ := getF X3 hx hZ hown (host := "") (Or.inl (hw _ (List.mem_of_getElem? (i := 14) rfl))) Via.refl e3 H2 (g := (mkF m 17 #[(.val (.ref p0)), (.val (.ref p1)), (.val (.ref p1))] [(.ref p0), (.int p2)])) rfl rfl (hb hby own_d9_17)
  refine own_st (T' := T4) (f' := (mkF m 20 #[(.val (.ref p0)), (.val (.ref p1)), (.val (.ref p1))] [(.int p3), (.int p2)])) st4 ?_
  by_cases c0 : p2 = p3
  · refine own_st (T' := T4) (f' := (mkF m 23 #[(.val (.ref p0)), (.val (.ref p1)), (.val (.ref p1))] [])) (fun _ kont => XS.icmpNo X4.here hx rfl (hb hby own_d9_20) rfl (teq c0).2 kont) ?_
    refine own_st (T' := T4) (f' := (mkF m 24 #[(.val (.ref p0)), (.val (.ref p1)), (.val (.ref p1))] [(.int (1 : Int32))])) (fun _ kont => XS.iconst X4.here hx rfl (hb hby own_d9_23) kont) ?_
    refine own_st (T' := T4) (f' := (mkF m 28 #[(.val (.ref p0)), (.val (.ref p1)), (.val (.ref p1))] [(.int (1 : Int32))])) (fun _ kont => XS.goto X4.here hx rfl (pc0 := 24) (pc' := 28) rfl (hb hby own_d9_24) (by decide) (by decide) kont) ?_
    exact own_retN X4 hx hlk (t := .boolean) hret (by simp) (hb hby own_d9_28) ⟨by simp only [if_pos c0]; rfl, rfl, e4⟩ (by decide) (by decide)
  · refine own_st (T' := T4) (f' := (mkF m 27 #[(.val (.ref p0)), (.val (.ref p1)), (.val (.ref p1))] [])) (fun _ kont => XS.icmpYes X4.here hx rfl (pc0 := 20) (pc' := 27) rfl (hb hby own_d9_20) rfl (feq c0).2 (by decide) (by decide) kont) ?_
    refine own_st (T' := T4) (f' := (mkF m 28 #[(.val (.ref p0)), (.val (.ref p1)), (.val (.ref p1))] [(.int (0 : Int32))])) (fun _ kont => XS.iconst X4.here hx rfl (hb hby own_d9_27) kont) ?_
    exact own_retN X4 hx hlk (t := .boolean) hret (by simp) (hb hby own_d9_28) ⟨by simp only [if_neg c0]; rfl, rfl, e4⟩ (by decide) (by decide)
theorem own_pd8 : parseMethodDescriptor "(Ljava/lang/Object;)Z" = some ⟨[(.object "java/lang/Object")], some .boolean⟩ := by decide +kernel
set_option maxRecDepth 65536 in
set_option maxHeartbeats 40000000 in
theorem own_k7_8 (l : Launch) (Z : State) (a0 : Array Value) (hw : ∀ d ∈ tables_1, d.before a0 Z = true) (p0 : Int32) (h0 : Heap)  :
    own_C l (⟨"java/lang/Integer", "compare", "(II)I"⟩ : MethodName) jdk_33_method_40_code 2 (some .int) (own_R 0 0 0 0) Z h0 #[(.int p0), (.int (2147483647 : Int32))] (own_P (some (if p0 < (2147483647 : Int32) then (.int (-1 : Int32)) else (if p0 = (2147483647 : Int32) then (.int (0 : Int32)) else (.int (1 : Int32))))) h0) := by
  refine own_body own_pn7 ?_
  intro p e s m below meth c s₁ hx hby hml hZ hown hnm hret hlk X0 e0
  refine own_cast (f' := (mkF m 0 #[(.val (.int p0)), (.val (.int (2147483647 : Int32)))] [])) (by first | (simp [entryFrame, mkF, argsToLocals, Value.category, maxLocals]; done) | rfl) ?_
  refine own_st (T' := s₁) (f' := (mkF m 1 #[(.val (.int p0)), (.val (.int (2147483647 : Int32)))] [(.int p0)])) (fun _ kont => XS.iloadN X0.here hx rfl (hb hby own_d7_0) rfl kont) ?_
  refine own_st (T' := s₁) (f' := (mkF m 2 #[(.val (.int p0)), (.val (.int (2147483647 : Int32)))] [(.int (2147483647 : Int32)), (.int p0)])) (fun _ kont => XS.iloadN X0.here hx rfl (hb hby own_d7_1) rfl kont) ?_
  by_cases c0 : p0 < (2147483647 : Int32)
  · refine own_st (T' := s₁) (f' := (mkF m 5 #[(.val (.int p0)), (.val (.int (2147483647 : Int32)))] [])) (fun _ kont => XS.icmpNo X0.here hx rfl (hb hby own_d7_2) rfl (tlt c0).2.1 kont) ?_
    refine own_st (T' := s₁) (f' := (mkF m 6 #[(.val (.int p0)), (.val (.int (2147483647 : Int32)))] [(.int (-1 : Int32))])) (fun _ kont => XS.iconst X0.here hx rfl (hb hby own_d7_5) kont) ?_
    refine own_st (T' := s₁) (f' := (mkF m 19 #[(.val (.int p0)), (.val (.int (2147483647 : Int32)))] [(.int (-1 : Int32))])) (fun _ kont => XS.goto X0.here hx rfl (pc0 := 6) (pc' := 19) rfl (hb hby own_d7_6) (by decide) (by decide) kont) ?_
    exact own_retI X0 hx hlk hret (hb hby own_d7_19) ⟨by simp only [if_pos c0], rfl, e0⟩ (by decide) (by decide)
  · refine own_st (T' := s₁) (f' := (mkF m 9 #[(.val (.int p0)), (.val (.int (2147483647 : Int32)))] [])) (fun _ kont => XS.icmpYes X0.here hx rfl (pc0 := 2) (pc' := 9) rfl (hb hby own_d7_2) rfl (flt c0).2.1 (by decide) (by decide) kont) ?_
    refine own_st (T' := s₁) (f' := (mkF m 10 #[(.val (.int p0)), (.val (.int (2147483647 : Int32)))] [(.int p0)])) (fun _ kont => XS.iloadN X0.here hx rfl (hb hby own_d7_9) rfl kont) ?_
    refine own_st (T' := s₁) (f' := (mkF m 11 #[(.val (.int p0)), (.val (.int (2147483647 : Int32)))] [(.int (2147483647 : Int32)), (.int p0)])) (fun _ kont => XS.iloadN X0.here hx rfl (hb hby own_d7_10) rfl kont) ?_
    by_cases c1 : p0 = (2147483647 : Int32)
    · refine own_st (T' := s₁) (f' := (mkF m 14 #[(.val (.int p0)), (.val (.int (2147483647 : Int32)))] [])) (fun _ kont => XS.icmpNo X0.here hx rfl (hb hby own_d7_11) rfl (teq c1).2 kont) ?_
      refine own_st (T' := s₁) (f' := (mkF m 15 #[(.val (.int p0)), (.val (.int (2147483647 : Int32)))] [(.int (0 : Int32))])) (fun _ kont => XS.iconst X0.here hx rfl (hb hby own_d7_14) kont) ?_
      refine own_st (T' := s₁) (f' := (mkF m 19 #[(.val (.int p0)), (.val (.int (2147483647 : Int32)))] [(.int (0 : Int32))])) (fun _ kont => XS.goto X0.here hx rfl (pc0 := 15) (pc' := 19) rfl (hb hby own_d7_15) (by decide) (by decide) kont) ?_
      exact own_retI X0 hx hlk hret (hb hby own_d7_19) ⟨by simp only [if_neg c0, if_pos c1], rfl, e0⟩ (by decide) (by decide)
    · refine own_st (T' := s₁) (f' := (mkF m 18 #[(.val (.int p0)), (.val (.int (2147483647 : Int32)))] [])) (fun _ kont => XS.icmpYes X0.here hx rfl (pc0 := 11) (pc' := 18) rfl (hb hby own_d7_11) rfl (feq c1).2 (by decide) (by decide) kont) ?_
      refine own_st (T' := s₁) (f' := (mkF m 19 #[(.val (.int p0)), (.val (.int (2147483647 : Int32)))] [(.int (1 : Int32))])) (fun _ kont => XS.iconst X0.here hx rfl (hb hby own_d7_18) kont) ?_
      exact own_retI X0 hx hlk hret (hb hby own_d7_19) ⟨by simp only [if_neg c0, if_neg c1], rfl, e0⟩ (by decide) (by decide)
set_option maxRecDepth 65536 in
set_option maxHeartbeats 40000000 in
theorem own_k6_7 (l : Launch) (Z : State) (a0 : Array Value) (hw : ∀ d ∈ tables_1, d.before a0 Z = true) (p0 : Addr) (p1 : Addr) (p2 : Int32) (h0 : Heap) (H0 : Fld Z h0 p0 "com/example/unless/unless/reasoning/Rank" "value" "I" (.int p2)) (H1 : Fld Z h0 p1 "com/example/unless/unless/reasoning/Rank" "value" "I" (.int (2147483647 : Int32))) :
    own_C l (⟨"com/example/unless/unless/reasoning/Rank", "compareTo", "(Lcom/example/unless/unless/reasoning/Rank;)I"⟩ : MethodName) prog_10_method_5_code 2 (some .int) (own_R 1 0 0 13) Z h0 #[(.ref p0), (.ref p1)] (own_P (some (if p2 < (2147483647 : Int32) then (.int (-1 : Int32)) else (if p2 = (2147483647 : Int32) then (.int (0 : Int32)) else (.int (1 : Int32))))) h0) := by
  refine own_body own_pn6 ?_
  intro p e s m below meth c s₁ hx hby hml hZ hown hnm hret hlk X0 e0
  refine own_cast (f' := (mkF m 0 #[(.val (.ref p0)), (.val (.ref p1))] [])) (by first | (simp [entryFrame, mkF, argsToLocals, Value.category, maxLocals]; done) | rfl) ?_
  refine own_st (T' := s₁) (f' := (mkF m 1 #[(.val (.ref p0)), (.val (.ref p1))] [(.ref p0)])) (fun _ kont => XS.aloadN X0.here hx rfl (hb hby own_d6_0) rfl rfl kont) ?_
  obtain ⟨T1, X1, e1, st1⟩ := getF X0 hx hZ hown (host := "") (Or.inl (hw _ (List.mem_of_getElem? (i := 14) rfl))) Via.refl e0 H0 (g := (mkF m 1 #[(.val (.ref p0)), (.val (.ref p1))] [(.ref p0)])) rfl rfl (hb hby own_d6_1)
  refine own_st (T' := T1) (f' := (mkF m 4 #[(.val (.ref p0)), (.val (.ref p1))] [(.int p2)])) st1 ?_
  refine own_st (T' := T1) (f' := (mkF m 5 #[(.val (.ref p0)), (.val (.ref p1))] [(.ref p1), (.int p2)])) (fun _ kont => XS.aloadN X1.here hx rfl (hb hby own_d6_4) rfl rfl kont) ?_
  obtain ⟨T2, X2, e2, st2⟩ := getF X1 hx hZ hown (host := "") (Or.inl (hw _ (List.mem_of_getElem? (i := 14) rfl))) Via.refl e1 H1 (g := (mkF m 5 #[(.val (.ref p0)), (.val (.ref p1))] [(.ref p1), (.int p2)])) rfl rfl (hb hby own_d6_5)
  refine own_st (T' := T2) (f' := (mkF m 8 #[(.val (.ref p0)), (.val (.ref p1))] [(.int (2147483647 : Int32)), (.int p2)])) st2 ?_
  obtain ⟨v3, T3, L3, hQ3, X3, st3⟩ := own_callS X2 hx hZ e2 hown (hw _ (List.mem_of_getElem? (i := 32) rfl)) (hw _ (List.mem_of_getElem? (i := 33) rfl)) (by decide) (hw _ (List.mem_of_getElem? (i := 35) rfl)) (hw _ (List.mem_of_getElem? (i := 34) rfl)) (own_k7_8 l Z a0 hw p2 h0 ) (g := (mkF m 8 #[(.val (.ref p0)), (.val (.ref p1))] [(.int (2147483647 : Int32)), (.int p2)])) rfl (by rw [hml]; rfl) rfl (argsL := [(.int p2), (.int (2147483647 : Int32))]) (rest := []) rfl (lenOf own_pd6 rfl) rfl (hb hby own_d6_8) (Nat.le_of_ble_eq_true rfl) (Nat.le_of_ble_eq_true rfl) (Nat.le_of_ble_eq_true rfl) (Nat.le_of_ble_eq_true rfl)
  obtain ⟨rfl, rfl, e3⟩ := hQ3
  rw [List.append_nil] at X3
  by_cases c0 : p2 < (2147483647 : Int32)
  · rw [if_pos c0] at st3
    refine own_st (T' := T3) (f' := (mkF m 11 #[(.val (.ref p0)), (.val (.ref p1))] [(.int (-1 : Int32))])) st3 ?_
    exact own_retI X3 hx hlk hret (hb hby own_d6_11) ⟨by simp only [if_pos c0], rfl, e3⟩ (by decide) (by decide)
  · rw [if_neg c0] at st3
    by_cases c1 : p2 = (2147483647 : Int32)
    · rw [if_pos c1] at st3
      refine own_st (T' := T3) (f' := (mkF m 11 #[(.val (.ref p0)), (.val (.ref p1))] [(.int (0 : Int32))])) st3 ?_
      exact own_retI X3 hx hlk hret (hb hby own_d6_11) ⟨by simp only [if_neg c0, if_pos c1], rfl, e3⟩ (by decide) (by decide)
    · rw [if_neg c1] at st3
      refine own_st (T' := T3) (f' := (mkF m 11 #[(.val (.ref p0)), (.val (.ref p1))] [(.int (1 : Int32))])) st3 ?_
      exact own_retI X3 hx hlk hret (hb hby own_d6_11) ⟨by simp only [if_neg c0, if_neg c1], rfl, e3⟩ (by decide) (by decide)
theorem own_d8_6 : decode method_2_code 6 = .ok (.iload_n 0, 1) := by decide +kernel
theorem own_d8_7 : decode method_2_code 7 = .ok (.ifCond .le 5, 3) := by decide +kernel
theorem own_d8_12 : decode method_2_code 12 = .ok (.iconst 0, 1) := by decide +kernel
theorem own_d8_13 : decode method_2_code 13 = .ok (.ireturn, 1) := by decide +kernel
set_option maxRecDepth 65536 in
set_option maxHeartbeats 40000000 in
theorem own_k8_9 (l : Launch) (Z : State) (a0 : Array Value) (hw : ∀ d ∈ tables_1, d.before a0 Z = true)  (h0 : Heap)  :
    own_C l (⟨"com/example/unless/unless/reasoning/RankOfPinLaw", "sign", "(I)I"⟩ : MethodName) method_2_code 1 (some .int) (own_R 0 0 0 0) Z h0 #[(.int (0 : Int32))] (own_P (some (.int (0 : Int32))) h0) := by
  refine own_body own_pn8 ?_
  intro p e s m below meth c s₁ hx hby hml hZ hown hnm hret hlk X0 e0
  refine own_cast (f' := (mkF m 0 #[(.val (.int (0 : Int32)))] [])) (by first | (simp [entryFrame, mkF, argsToLocals, Value.category, maxLocals]; done) | rfl) ?_
  refine own_st (T' := s₁) (f' := (mkF m 1 #[(.val (.int (0 : Int32)))] [(.int (0 : Int32))])) (fun _ kont => XS.iloadN X0.here hx rfl (hb hby own_d8_0) rfl kont) ?_
  refine own_st (T' := s₁) (f' := (mkF m 6 #[(.val (.int (0 : Int32)))] [])) (fun _ kont => XS.ifYes X0.here hx rfl (pc0 := 1) (pc' := 6) rfl (hb hby own_d8_1) rfl ((if0 _ _).trans (flt (by decide : ¬ ((0 : Int32) < (0 : Int32)))).2.1) (by decide) (by decide) kont) ?_
  refine own_st (T' := s₁) (f' := (mkF m 7 #[(.val (.int (0 : Int32)))] [(.int (0 : Int32))])) (fun _ kont => XS.iloadN X0.here hx rfl (hb hby own_d8_6) rfl kont) ?_
  refine own_st (T' := s₁) (f' := (mkF m 12 #[(.val (.int (0 : Int32)))] [])) (fun _ kont => XS.ifYes X0.here hx rfl (pc0 := 7) (pc' := 12) rfl (hb hby own_d8_7) rfl ((if0 _ _).trans (flt (by decide : ¬ ((0 : Int32) < (0 : Int32)))).2.2.2) (by decide) (by decide) kont) ?_
  refine own_st (T' := s₁) (f' := (mkF m 13 #[(.val (.int (0 : Int32)))] [(.int (0 : Int32))])) (fun _ kont => XS.iconst X0.here hx rfl (hb hby own_d8_12) kont) ?_
  exact own_retI X0 hx hlk hret (hb hby own_d8_13) ⟨rfl, rfl, e0⟩ (by decide) (by decide)
theorem own_d8_10 : decode method_2_code 10 = .ok (.iconst 1, 1) := by decide +kernel
theorem own_d8_11 : decode method_2_code 11 = .ok (.ireturn, 1) := by decide +kernel
set_option maxRecDepth 65536 in
set_option maxHeartbeats 40000000 in
theorem own_k8_10 (l : Launch) (Z : State) (a0 : Array Value) (hw : ∀ d ∈ tables_1, d.before a0 Z = true)  (h0 : Heap)  :
    own_C l (⟨"com/example/unless/unless/reasoning/RankOfPinLaw", "sign", "(I)I"⟩ : MethodName) method_2_code 1 (some .int) (own_R 0 0 0 0) Z h0 #[(.int (1 : Int32))] (own_P (some (.int (1 : Int32))) h0) := by
  refine own_body own_pn8 ?_
  intro p e s m below meth c s₁ hx hby hml hZ hown hnm hret hlk X0 e0
  refine own_cast (f' := (mkF m 0 #[(.val (.int (1 : Int32)))] [])) (by first | (simp [entryFrame, mkF, argsToLocals, Value.category, maxLocals]; done) | rfl) ?_
  refine own_st (T' := s₁) (f' := (mkF m 1 #[(.val (.int (1 : Int32)))] [(.int (1 : Int32))])) (fun _ kont => XS.iloadN X0.here hx rfl (hb hby own_d8_0) rfl kont) ?_
  refine own_st (T' := s₁) (f' := (mkF m 6 #[(.val (.int (1 : Int32)))] [])) (fun _ kont => XS.ifYes X0.here hx rfl (pc0 := 1) (pc' := 6) rfl (hb hby own_d8_1) rfl ((if0 _ _).trans (flt (by decide : ¬ ((1 : Int32) < (0 : Int32)))).2.1) (by decide) (by decide) kont) ?_
  refine own_st (T' := s₁) (f' := (mkF m 7 #[(.val (.int (1 : Int32)))] [(.int (1 : Int32))])) (fun _ kont => XS.iloadN X0.here hx rfl (hb hby own_d8_6) rfl kont) ?_
  refine own_st (T' := s₁) (f' := (mkF m 10 #[(.val (.int (1 : Int32)))] [])) (fun _ kont => XS.ifNo X0.here hx rfl (hb hby own_d8_7) rfl ((if0 _ _).trans (tlt (by decide : (0 : Int32) < (1 : Int32))).2.2.2) kont) ?_
  refine own_st (T' := s₁) (f' := (mkF m 11 #[(.val (.int (1 : Int32)))] [(.int (1 : Int32))])) (fun _ kont => XS.iconst X0.here hx rfl (hb hby own_d8_10) kont) ?_
  exact own_retI X0 hx hlk hret (hb hby own_d8_11) ⟨rfl, rfl, e0⟩ (by decide) (by decide)
set_option maxRecDepth 65536 in
set_option maxHeartbeats 40000000 in
theorem own_k7_12 (l : Launch) (Z : State) (a0 : Array Value) (hw : ∀ d ∈ tables_1, d.before a0 Z = true) (p0 : Int32) (h0 : Heap)  :
    own_C l (⟨"java/lang/Integer", "compare", "(II)I"⟩ : MethodName) jdk_33_method_40_code 2 (some .int) (own_R 0 0 0 0) Z h0 #[(.int p0), (.int p0)] (own_P (some (.int (0 : Int32))) h0) := by
  refine own_body own_pn7 ?_
  intro p e s m below meth c s₁ hx hby hml hZ hown hnm hret hlk X0 e0
  refine own_cast (f' := (mkF m 0 #[(.val (.int p0)), (.val (.int p0))] [])) (by first | (simp [entryFrame, mkF, argsToLocals, Value.category, maxLocals]; done) | rfl) ?_
  refine own_st (T' := s₁) (f' := (mkF m 1 #[(.val (.int p0)), (.val (.int p0))] [(.int p0)])) (fun _ kont => XS.iloadN X0.here hx rfl (hb hby own_d7_0) rfl kont) ?_
  refine own_st (T' := s₁) (f' := (mkF m 2 #[(.val (.int p0)), (.val (.int p0))] [(.int p0), (.int p0)])) (fun _ kont => XS.iloadN X0.here hx rfl (hb hby own_d7_1) rfl kont) ?_
  refine own_st (T' := s₁) (f' := (mkF m 9 #[(.val (.int p0)), (.val (.int p0))] [])) (fun _ kont => XS.icmpYes X0.here hx rfl (pc0 := 2) (pc' := 9) rfl (hb hby own_d7_2) rfl (flt (own_irr _)).2.1 (by decide) (by decide) kont) ?_
  refine own_st (T' := s₁) (f' := (mkF m 10 #[(.val (.int p0)), (.val (.int p0))] [(.int p0)])) (fun _ kont => XS.iloadN X0.here hx rfl (hb hby own_d7_9) rfl kont) ?_
  refine own_st (T' := s₁) (f' := (mkF m 11 #[(.val (.int p0)), (.val (.int p0))] [(.int p0), (.int p0)])) (fun _ kont => XS.iloadN X0.here hx rfl (hb hby own_d7_10) rfl kont) ?_
  refine own_st (T' := s₁) (f' := (mkF m 14 #[(.val (.int p0)), (.val (.int p0))] [])) (fun _ kont => XS.icmpNo X0.here hx rfl (hb hby own_d7_11) rfl (teq (rfl : p0 = p0)).2 kont) ?_
  refine own_st (T' := s₁) (f' := (mkF m 15 #[(.val (.int p0)), (.val (.int p0))] [(.int (0 : Int32))])) (fun _ kont => XS.iconst X0.here hx rfl (hb hby own_d7_14) kont) ?_
  refine own_st (T' := s₁) (f' := (mkF m 19 #[(.val (.int p0)), (.val (.int p0))] [(.int (0 : Int32))])) (fun _ kont => XS.goto X0.here hx rfl (pc0 := 15) (pc' := 19) rfl (hb hby own_d7_15) (by decide) (by decide) kont) ?_
  exact own_retI X0 hx hlk hret (hb hby own_d7_19) ⟨rfl, rfl, e0⟩ (by decide) (by decide)
set_option maxRecDepth 65536 in
set_option maxHeartbeats 40000000 in
theorem own_k6_11 (l : Launch) (Z : State) (a0 : Array Value) (hw : ∀ d ∈ tables_1, d.before a0 Z = true) (p0 : Addr) (p1 : Addr) (p2 : Int32) (h0 : Heap) (H0 : Fld Z h0 p0 "com/example/unless/unless/reasoning/Rank" "value" "I" (.int p2)) (H1 : Fld Z h0 p1 "com/example/unless/unless/reasoning/Rank" "value" "I" (.int p2)) :
    own_C l (⟨"com/example/unless/unless/reasoning/Rank", "compareTo", "(Lcom/example/unless/unless/reasoning/Rank;)I"⟩ : MethodName) prog_10_method_5_code 2 (some .int) (own_R 1 0 0 13) Z h0 #[(.ref p0), (.ref p1)] (own_P (some (.int (0 : Int32))) h0) := by
  refine own_body own_pn6 ?_
  intro p e s m below meth c s₁ hx hby hml hZ hown hnm hret hlk X0 e0
  refine own_cast (f' := (mkF m 0 #[(.val (.ref p0)), (.val (.ref p1))] [])) (by first | (simp [entryFrame, mkF, argsToLocals, Value.category, maxLocals]; done) | rfl) ?_
  refine own_st (T' := s₁) (f' := (mkF m 1 #[(.val (.ref p0)), (.val (.ref p1))] [(.ref p0)])) (fun _ kont => XS.aloadN X0.here hx rfl (hb hby own_d6_0) rfl rfl kont) ?_
  obtain ⟨T1, X1, e1, st1⟩ := getF X0 hx hZ hown (host := "") (Or.inl (hw _ (List.mem_of_getElem? (i := 14) rfl))) Via.refl e0 H0 (g := (mkF m 1 #[(.val (.ref p0)), (.val (.ref p1))] [(.ref p0)])) rfl rfl (hb hby own_d6_1)
  refine own_st (T' := T1) (f' := (mkF m 4 #[(.val (.ref p0)), (.val (.ref p1))] [(.int p2)])) st1 ?_
  refine own_st (T' := T1) (f' := (mkF m 5 #[(.val (.ref p0)), (.val (.ref p1))] [(.ref p1), (.int p2)])) (fun _ kont => XS.aloadN X1.here hx rfl (hb hby own_d6_4) rfl rfl kont) ?_
  obtain ⟨T2, X2, e2, st2⟩ := getF X1 hx hZ hown (host := "") (Or.inl (hw _ (List.mem_of_getElem? (i := 14) rfl))) Via.refl e1 H1 (g := (mkF m 5 #[(.val (.ref p0)), (.val (.ref p1))] [(.ref p1), (.int p2)])) rfl rfl (hb hby own_d6_5)
  refine own_st (T' := T2) (f' := (mkF m 8 #[(.val (.ref p0)), (.val (.ref p1))] [(.int p2), (.int p2)])) st2 ?_
  obtain ⟨v3, T3, L3, hQ3, X3, st3⟩ := own_callS X2 hx hZ e2 hown (hw _ (List.mem_of_getElem? (i := 32) rfl)) (hw _ (List.mem_of_getElem? (i := 33) rfl)) (by decide) (hw _ (List.mem_of_getElem? (i := 35) rfl)) (hw _ (List.mem_of_getElem? (i := 34) rfl)) (own_k7_12 l Z a0 hw p2 h0 ) (g := (mkF m 8 #[(.val (.ref p0)), (.val (.ref p1))] [(.int p2), (.int p2)])) rfl (by rw [hml]; rfl) rfl (argsL := [(.int p2), (.int p2)]) (rest := []) rfl (lenOf own_pd6 rfl) rfl (hb hby own_d6_8) (Nat.le_of_ble_eq_true rfl) (Nat.le_of_ble_eq_true rfl) (Nat.le_of_ble_eq_true rfl) (Nat.le_of_ble_eq_true rfl)
  obtain ⟨rfl, rfl, e3⟩ := hQ3
  rw [List.append_nil] at X3
  refine own_st (T' := T3) (f' := (mkF m 11 #[(.val (.ref p0)), (.val (.ref p1))] [(.int (0 : Int32))])) st3 ?_
  exact own_retI X3 hx hlk hret (hb hby own_d6_11) ⟨rfl, rfl, e3⟩ (by decide) (by decide)
set_option maxRecDepth 65536 in
set_option maxHeartbeats 40000000 in
theorem own_k9_13 (l : Launch) (Z : State) (a0 : Array Value) (hw : ∀ d ∈ tables_1, d.before a0 Z = true) (p0 : Addr) (p1 : Addr) (p2 : Int32) (h0 : Heap) (H0 : Exa Z h0 p1 "com/example/unless/unless/reasoning/Rank") (H1 : Fld Z h0 p1 "com/example/unless/unless/reasoning/Rank" "value" "I" (.int p2)) (H2 : Fld Z h0 p0 "com/example/unless/unless/reasoning/Rank" "value" "I" (.int p2)) :
    own_C l (⟨"com/example/unless/unless/reasoning/Rank", "equals", "(Ljava/lang/Object;)Z"⟩ : MethodName) prog_10_method_6_code 3 (some .boolean) (own_R 0 0 0 0) Z h0 #[(.ref p0), (.ref p1)] (own_P (some (.int (1 : Int32))) h0) := by
  refine own_body own_pn9 ?_
  intro p e s m below meth c s₁ hx hby hml hZ hown hnm hret hlk X0 e0
  refine own_cast (f' := (mkF m 0 #[(.val (.ref p0)), (.val (.ref p1)), .unset] [])) (by first | (simp [entryFrame, mkF, argsToLocals, Value.category, maxLocals]; done) | rfl) ?_
  refine own_st (T' := s₁) (f' := (mkF m 1 #[(.val (.ref p0)), (.val (.ref p1)), .unset] [(.ref p1)])) (fun _ kont => XS.aloadN X0.here hx rfl (hb hby own_d9_0) rfl rfl kont) ?_
  obtain ⟨T1, X1, e1, st1⟩ := instY X0 hx hZ hown (hw _ (List.mem_of_getElem? (i := 6) rfl)) e0 (Ins.self H0) (g := (mkF m 1 #[(.val (.ref p0)), (.val (.ref p1)), .unset] [(.ref p1)])) rfl rfl (hb hby own_d9_1)
  refine own_st (T' := T1) (f' := (mkF m 4 #[(.val (.ref p0)), (.val (.ref p1)), .unset] [(.int (1 : Int32))])) st1 ?_
  refine own_st (T' := T1) (f' := (mkF m 7 #[(.val (.ref p0)), (.val (.ref p1)), .unset] [])) (fun _ kont => XS.ifNo X1.here hx rfl (hb hby own_d9_4) rfl ((if0 _ _).trans (feq (by decide : ¬ ((1 : Int32) = (0 : Int32)))).1) kont) ?_
  refine own_st (T' := T1) (f' := (mkF m 8 #[(.val (.ref p0)), (.val (.ref p1)), .unset] [(.ref p1)])) (fun _ kont => XS.aloadN X1.here hx rfl (hb hby own_d9_7) rfl rfl kont) ?_
  obtain ⟨T2, X2, e2, st2⟩ := castY X1 hx hZ hown (hw _ (List.mem_of_getElem? (i := 6) rfl)) e1 (Ins.self H0) (g := (mkF m 8 #[(.val (.ref p0)), (.val (.ref p1)), .unset] [(.ref p1)])) rfl rfl (hb hby own_d9_8)
  refine own_st (T' := T2) (f' := (mkF m 11 #[(.val (.ref p0)), (.val (.ref p1)), .unset] [(.ref p1)])) st2 ?_
  refine own_st (T' := T2) (f' := (mkF m 12 #[(.val (.ref p0)), (.val (.ref p1)), (.val (.ref p1))] [])) (fun _ kont => XS.astoreN X2.here hx rfl (hb hby own_d9_11) rfl rfl (l' := #[(.val (.ref p0)), (.val (.ref p1)), (.val (.ref p1))]) rfl kont) ?_
  refine own_st (T' := T2) (f' := (mkF m 13 #[(.val (.ref p0)), (.val (.ref p1)), (.val (.ref p1))] [(.ref p1)])) (fun _ kont => XS.aloadN X2.here hx rfl (hb hby own_d9_12) rfl rfl kont) ?_
  obtain ⟨T3, X3, e3, st3⟩ := getF X2 hx hZ hown (host := "") (Or.inl (hw _ (List.mem_of_getElem? (i := 14) rfl))) Via.refl e2 H1 (g := (mkF m 13 #[(.val (.ref p0)), (.val (.ref p1)), (.val (.ref p1))] [(.ref p1)])) rfl rfl (hb hby own_d9_13)
  refine own_st (T' := T3) (f' := (mkF m 16 #[(.val (.ref p0)), (.val (.ref p1)), (.val (.ref p1))] [(.int p2)])) st3 ?_
  refine own_st (T' := T3) (f' := (mkF m 17 #[(.val (.ref p0)), (.val (.ref p1)), (.val (.ref p1))] [(.ref p0), (.int p2)])) (fun _ kont => XS.aloadN X3.here hx rfl (hb hby own_d9_16) rfl rfl kont) ?_
  obtain ⟨T4, X4, e4, st4⟩ := getF X3 hx hZ hown (host := "") (Or.inl (hw _ (List.mem_of_getElem? (i := 14) rfl))) Via.refl e3 H2 (g := (mkF m 17 #[(.val (.ref p0)), (.val (.ref p1)), (.val (.ref p1))] [(.ref p0), (.int p2)])) rfl rfl (hb hby own_d9_17)
  refine own_st (T' := T4) (f' := (mkF m 20 #[(.val (.ref p0)), (.val (.ref p1)), (.val (.ref p1))] [(.int p2), (.int p2)])) st4 ?_
  refine own_st (T' := T4) (f' := (mkF m 23 #[(.val (.ref p0)), (.val (.ref p1)), (.val (.ref p1))] [])) (fun _ kont => XS.icmpNo X4.here hx rfl (hb hby own_d9_20) rfl (teq (rfl : p2 = p2)).2 kont) ?_
  refine own_st (T' := T4) (f' := (mkF m 24 #[(.val (.ref p0)), (.val (.ref p1)), (.val (.ref p1))] [(.int (1 : Int32))])) (fun _ kont => XS.iconst X4.here hx rfl (hb hby own_d9_23) kont) ?_
  refine own_st (T' := T4) (f' := (mkF m 28 #[(.val (.ref p0)), (.val (.ref p1)), (.val (.ref p1))] [(.int (1 : Int32))])) (fun _ kont => XS.goto X4.here hx rfl (pc0 := 24) (pc' := 28) rfl (hb hby own_d9_24) (by decide) (by decide) kont) ?_
  exact own_retN X4 hx hlk (t := .boolean) hret (by simp) (hb hby own_d9_28) ⟨rfl, rfl, e4⟩ (by decide) (by decide)
set_option maxRecDepth 65536 in
set_option maxHeartbeats 40000000 in
theorem own_rm0 (l : Launch) (Z : State) (a0 : Array Value) (hw : ∀ d ∈ tables_1, d.before a0 Z = true) (ws : List Jvm.Cond) (x0 : Int32) (x1 : Int32) (x2 : Int32) (s_Rank_INFINITE : Addr) (h0 : Heap) (S_Rank_INFINITE : Sta Z h0 "com/example/unless/unless/reasoning/Rank" "INFINITE" "Lcom/example/unless/unless/reasoning/Rank;" (.ref s_Rank_INFINITE)) (E_Rank_INFINITE : Exa Z h0 s_Rank_INFINITE "com/example/unless/unless/reasoning/Rank") (F_Rank_INFINITE_value : Fld Z h0 s_Rank_INFINITE "com/example/unless/unless/reasoning/Rank" "value" "I" (.int (2147483647 : Int32))) :
    own_C0 l x code maxLocals ret ws room_1 Z h0 #[(.int x0), (.int x1), (.int x2)] (fun v h L => v = some (.int (1 : Int32)) ∧ Fr h0.size L) 16 128 := by
  refine own_body own_pn0 ?_
  intro p e s m below meth c s₁ hx hby hml hZ hown hnm hret hlk X0 e0
  refine own_cast (f' := (mkF m 0 #[(.val (.int x0)), (.val (.int x1)), (.val (.int x2)), .unset, .unset, .unset, .unset, .unset] [])) (by first | (simp [entryFrame, mkF, argsToLocals, Value.category, maxLocals]; done) | rfl) ?_
  refine own_st (T' := s₁) (f' := (mkF m 1 #[(.val (.int x0)), (.val (.int x1)), (.val (.int x2)), .unset, .unset, .unset, .unset, .unset] [(.int x0)])) (fun _ kont => XS.iloadN X0.here hx rfl (hb hby at_0) rfl kont) ?_
  refine own_st (T' := s₁) (f' := (mkF m 3 #[(.val (.int x0)), (.val (.int x1)), (.val (.int x2)), .unset, .unset, .unset, .unset, .unset] [(.int (2147483647 : Int32)), (.int x0)])) (fun _ kont => X0.ldcInt hx hown (mvT hZ (hw _ (List.mem_of_getElem? (i := 0) rfl))) (g := (mkF m 1 #[(.val (.int x0)), (.val (.int x1)), (.val (.int x2)), .unset, .unset, .unset, .unset, .unset] [(.int x0)])) rfl (hb hby at_1) _ kont) ?_
  refine own_st (T' := s₁) (f' := (mkF m 4 #[(.val (.int x0)), (.val (.int x1)), (.val (.int x2)), .unset, .unset, .unset, .unset, .unset] [(.int (x0 &&& (2147483647 : Int32)))])) (fun _ kont => XS.iand X0.here hx rfl (hb hby at_3) rfl kont) ?_
  refine own_st (T' := s₁) (f' := (mkF m 6 #[(.val (.int x0)), (.val (.int x1)), (.val (.int x2)), .unset, .unset, .unset, .unset, .unset] [(.int (2147483647 : Int32)), (.int (x0 &&& (2147483647 : Int32)))])) (fun _ kont => X0.ldcInt hx hown (mvT hZ (hw _ (List.mem_of_getElem? (i := 0) rfl))) (g := (mkF m 4 #[(.val (.int x0)), (.val (.int x1)), (.val (.int x2)), .unset, .unset, .unset, .unset, .unset] [(.int (x0 &&& (2147483647 : Int32)))])) rfl (hb hby at_4) _ kont) ?_
  refine own_st (T' := s₁) (f' := (mkF m 7 #[(.val (.int x0)), (.val (.int x1)), (.val (.int x2)), .unset, .unset, .unset, .unset, .unset] [(.int ((x0 &&& (2147483647 : Int32)) % (2147483647 : Int32)))])) (fun _ kont => iremM X0 hx rfl (hb hby at_6) rfl (by decide) kont) ?_
  obtain ⟨v, h_v⟩ : ∃ z, z = ((x0 &&& (2147483647 : Int32)) % (2147483647 : Int32)) := ⟨_, rfl⟩
  rw [← h_v]
  obtain ⟨h0v, hMv, hLv⟩ := h_v ▸ own_rng x0
  refine own_st (T' := s₁) (f' := (mkF m 8 #[(.val (.int x0)), (.val (.int x1)), (.val (.int x2)), (.val (.int v)), .unset, .unset, .unset, .unset] [])) (fun _ kont => XS.istoreN X0.here hx rfl (hb hby at_7) rfl (l' := #[(.val (.int x0)), (.val (.int x1)), (.val (.int x2)), (.val (.int v)), .unset, .unset, .unset, .unset]) rfl kont) ?_
  refine own_st (T' := s₁) (f' := (mkF m 9 #[(.val (.int x0)), (.val (.int x1)), (.val (.int x2)), (.val (.int v)), .unset, .unset, .unset, .unset] [(.int x2)])) (fun _ kont => XS.iloadN X0.here hx rfl (hb hby at_8) rfl kont) ?_
  refine own_st (T' := s₁) (f' := (mkF m 10 #[(.val (.int x0)), (.val (.int x1)), (.val (.int x2)), (.val (.int v)), .unset, .unset, .unset, .unset] [(.int (1 : Int32)), (.int x2)])) (fun _ kont => XS.iconst X0.here hx rfl (hb hby at_9) kont) ?_
  refine own_st (T' := s₁) (f' := (mkF m 11 #[(.val (.int x0)), (.val (.int x1)), (.val (.int x2)), (.val (.int v)), .unset, .unset, .unset, .unset] [(.int (x2 &&& (1 : Int32)))])) (fun _ kont => XS.iand X0.here hx rfl (hb hby at_10) rfl kont) ?_
  by_cases c0 : (x2 &&& (1 : Int32)) = (0 : Int32)
  · refine own_st (T' := s₁) (f' := (mkF m 18 #[(.val (.int x0)), (.val (.int x1)), (.val (.int x2)), (.val (.int v)), .unset, .unset, .unset, .unset] [])) (fun _ kont => XS.ifYes X0.here hx rfl (pc0 := 11) (pc' := 18) rfl (hb hby at_11) rfl ((if0 _ _).trans (teq c0).1) (by decide) (by decide) kont) ?_
    refine own_st (T' := s₁) (f' := (mkF m 19 #[(.val (.int x0)), (.val (.int x1)), (.val (.int x2)), (.val (.int v)), .unset, .unset, .unset, .unset] [(.int x1)])) (fun _ kont => XS.iloadN X0.here hx rfl (hb hby at_18) rfl kont) ?_
    refine own_st (T' := s₁) (f' := (mkF m 21 #[(.val (.int x0)), (.val (.int x1)), (.val (.int x2)), (.val (.int v)), .unset, .unset, .unset, .unset] [(.int (2147483647 : Int32)), (.int x1)])) (fun _ kont => X0.ldcInt hx hown (mvT hZ (hw _ (List.mem_of_getElem? (i := 0) rfl))) (g := (mkF m 19 #[(.val (.int x0)), (.val (.int x1)), (.val (.int x2)), (.val (.int v)), .unset, .unset, .unset, .unset] [(.int x1)])) rfl (hb hby at_19) _ kont) ?_
    refine own_st (T' := s₁) (f' := (mkF m 22 #[(.val (.int x0)), (.val (.int x1)), (.val (.int x2)), (.val (.int v)), .unset, .unset, .unset, .unset] [(.int (x1 &&& (2147483647 : Int32)))])) (fun _ kont => XS.iand X0.here hx rfl (hb hby at_21) rfl kont) ?_
    refine own_st (T' := s₁) (f' := (mkF m 24 #[(.val (.int x0)), (.val (.int x1)), (.val (.int x2)), (.val (.int v)), .unset, .unset, .unset, .unset] [(.int (2147483647 : Int32)), (.int (x1 &&& (2147483647 : Int32)))])) (fun _ kont => X0.ldcInt hx hown (mvT hZ (hw _ (List.mem_of_getElem? (i := 0) rfl))) (g := (mkF m 22 #[(.val (.int x0)), (.val (.int x1)), (.val (.int x2)), (.val (.int v)), .unset, .unset, .unset, .unset] [(.int (x1 &&& (2147483647 : Int32)))])) rfl (hb hby at_22) _ kont) ?_
    refine own_st (T' := s₁) (f' := (mkF m 25 #[(.val (.int x0)), (.val (.int x1)), (.val (.int x2)), (.val (.int v)), .unset, .unset, .unset, .unset] [(.int ((x1 &&& (2147483647 : Int32)) % (2147483647 : Int32)))])) (fun _ kont => iremM X0 hx rfl (hb hby at_24) rfl (by decide) kont) ?_
    obtain ⟨w, h_w⟩ : ∃ z, z = ((x1 &&& (2147483647 : Int32)) % (2147483647 : Int32)) := ⟨_, rfl⟩
    rw [← h_w]
    obtain ⟨h0w, hMw, hLw⟩ := h_w ▸ own_rng x1
    refine own_st (T' := s₁) (f' := (mkF m 27 #[(.val (.int x0)), (.val (.int x1)), (.val (.int x2)), (.val (.int v)), (.val (.int w)), .unset, .unset, .unset] [])) (fun _ kont => XS.istore X0.here hx rfl (hb hby at_25) rfl (l' := #[(.val (.int x0)), (.val (.int x1)), (.val (.int x2)), (.val (.int v)), (.val (.int w)), .unset, .unset, .unset]) rfl kont) ?_
    refine own_st (T' := s₁) (f' := (mkF m 28 #[(.val (.int x0)), (.val (.int x1)), (.val (.int x2)), (.val (.int v)), (.val (.int w)), .unset, .unset, .unset] [(.int v)])) (fun _ kont => XS.iloadN X0.here hx rfl (hb hby at_27) rfl kont) ?_
    obtain ⟨v1, T1, L1, hQ1, X1, st1⟩ := own_callS X0 hx hZ e0 hown (hw _ (List.mem_of_getElem? (i := 1) rfl)) (hw _ (List.mem_of_getElem? (i := 2) rfl)) (by decide) (hw _ (List.mem_of_getElem? (i := 4) rfl)) (hw _ (List.mem_of_getElem? (i := 3) rfl)) (own_of l Z a0 hw v h0 h0v hMv) (g := (mkF m 28 #[(.val (.int x0)), (.val (.int x1)), (.val (.int x2)), (.val (.int v)), (.val (.int w)), .unset, .unset, .unset] [(.int v)])) rfl (by rw [hml]; rfl) rfl (argsL := [(.int v)]) (rest := []) rfl (lenOf own_pd4 rfl) rfl (hb hby at_28) (Nat.le_of_ble_eq_true rfl) (Nat.le_of_ble_eq_true rfl) (Nat.le_of_ble_eq_true rfl) (Nat.le_of_ble_eq_true rfl)
    obtain ⟨h1, e1⟩ : ∃ z, T1.heap = z := ⟨_, rfl⟩
    rw [e1] at hQ1
    obtain ⟨a1, rfl, zz1, E1, A1, F1, N1⟩ := hQ1
    have ne2 : s_Rank_INFINITE ≠ a1 := Nat.ne_of_lt (Nat.lt_of_lt_of_le E_Rank_INFINITE.lt zz1)
    have z_a1 : h0.size ≤ a1 := zz1
    have N_1 := Fr.app (Fr.nil _) (own_frm N1 (Nat.le_refl _))
    have EX1 : Ext h0 h1 := E1
    refine own_st (T' := T1) (f' := (mkF m 31 #[(.val (.int x0)), (.val (.int x1)), (.val (.int x2)), (.val (.int v)), (.val (.int w)), .unset, .unset, .unset] [(.ref a1)])) st1 ?_
    refine own_st (T' := T1) (f' := (mkF m 33 #[(.val (.int x0)), (.val (.int x1)), (.val (.int x2)), (.val (.int v)), (.val (.int w)), (.val (.ref a1)), .unset, .unset] [])) (fun _ kont => XS.astore X1.here hx rfl (hb hby at_31) rfl rfl (l' := #[(.val (.int x0)), (.val (.int x1)), (.val (.int x2)), (.val (.int v)), (.val (.int w)), (.val (.ref a1)), .unset, .unset]) rfl kont) ?_
    refine own_st (T' := T1) (f' := (mkF m 35 #[(.val (.int x0)), (.val (.int x1)), (.val (.int x2)), (.val (.int v)), (.val (.int w)), (.val (.ref a1)), .unset, .unset] [(.int w)])) (fun _ kont => XS.iload X1.here hx rfl (hb hby at_33) rfl kont) ?_
    obtain ⟨v3, T3, L3, hQ3, X3, st3⟩ := own_callS X1 hx hZ e1 hown (hw _ (List.mem_of_getElem? (i := 1) rfl)) (hw _ (List.mem_of_getElem? (i := 2) rfl)) (by decide) (hw _ (List.mem_of_getElem? (i := 4) rfl)) (hw _ (List.mem_of_getElem? (i := 3) rfl)) (own_of l Z a0 hw w h1 h0w hMw) (g := (mkF m 35 #[(.val (.int x0)), (.val (.int x1)), (.val (.int x2)), (.val (.int v)), (.val (.int w)), (.val (.ref a1)), .unset, .unset] [(.int w)])) rfl (by rw [hml]; rfl) rfl (argsL := [(.int w)]) (rest := []) rfl (lenOf own_pd4 rfl) rfl (hb hby at_35) (Nat.le_of_ble_eq_true rfl) (Nat.le_of_ble_eq_true rfl) (Nat.le_of_ble_eq_true rfl) (Nat.le_of_ble_eq_true rfl)
    obtain ⟨h3, e3⟩ : ∃ z, T3.heap = z := ⟨_, rfl⟩
    rw [e3] at hQ3
    obtain ⟨a3, rfl, zz3, E3, A3, F3, N3⟩ := hQ3
    have ne4 : s_Rank_INFINITE ≠ a3 := Nat.ne_of_lt (Nat.lt_of_lt_of_le (E_Rank_INFINITE.ext EX1).lt zz3)
    have ne5 : a1 ≠ a3 := Nat.ne_of_lt (Nat.lt_of_lt_of_le A1.lt zz3)
    have z_a3 : h0.size ≤ a3 := Nat.le_trans EX1.1 zz3
    have N_3 := Fr.app N_1 (own_frm N3 EX1.1)
    have Y6 := A1.ext E3
    have Y7 := F1.ext E3
    have EX3 : Ext h0 h3 := own_extE EX1 E3
    refine own_st (T' := T3) (f' := (mkF m 38 #[(.val (.int x0)), (.val (.int x1)), (.val (.int x2)), (.val (.int v)), (.val (.int w)), (.val (.ref a1)), .unset, .unset] [(.ref a3)])) st3 ?_
    refine own_st (T' := T3) (f' := (mkF m 40 #[(.val (.int x0)), (.val (.int x1)), (.val (.int x2)), (.val (.int v)), (.val (.int w)), (.val (.ref a1)), (.val (.ref a3)), .unset] [])) (fun _ kont => XS.astore X3.here hx rfl (hb hby at_38) rfl rfl (l' := #[(.val (.int x0)), (.val (.int x1)), (.val (.int x2)), (.val (.int v)), (.val (.int w)), (.val (.ref a1)), (.val (.ref a3)), .unset]) rfl kont) ?_
    refine own_st (T' := T3) (f' := (mkF m 42 #[(.val (.int x0)), (.val (.int x1)), (.val (.int x2)), (.val (.int v)), (.val (.int w)), (.val (.ref a1)), (.val (.ref a3)), .unset] [(.ref a1)])) (fun _ kont => XS.aload X3.here hx rfl (hb hby at_40) rfl rfl kont) ?_
    obtain ⟨v8, T8, L8, hQ8, X8, st8⟩ := own_callV X3 hx hZ e3 hown (hw _ (List.mem_of_getElem? (i := 16) rfl)) (hw _ (List.mem_of_getElem? (i := 17) rfl)) (hw _ (List.mem_of_getElem? (i := 19) rfl)) (hw _ (List.mem_of_getElem? (i := 18) rfl)) (by decide) (b := a1) Y6 (hw _ (List.mem_of_getElem? (i := 20) rfl)) (hw _ (List.mem_of_getElem? (i := 3) rfl)) (own_k4_1 l Z a0 hw a1 v h3 Y7) (g := (mkF m 42 #[(.val (.int x0)), (.val (.int x1)), (.val (.int x2)), (.val (.int v)), (.val (.int w)), (.val (.ref a1)), (.val (.ref a3)), .unset] [(.ref a1)])) rfl (by rw [hml]; rfl) rfl (argsL := []) (rest := []) rfl (lenOf own_pd2 rfl) rfl (hb hby at_42) (Nat.le_of_ble_eq_true rfl) (Nat.le_of_ble_eq_true rfl) (Nat.le_of_ble_eq_true rfl) (Nat.le_of_ble_eq_true rfl)
    obtain ⟨rfl, rfl, e8⟩ := hQ8
    rw [List.append_nil] at X8
    rw [if_neg hMv] at st8
    refine own_st (T' := T8) (f' := (mkF m 45 #[(.val (.int x0)), (.val (.int x1)), (.val (.int x2)), (.val (.int v)), (.val (.int w)), (.val (.ref a1)), (.val (.ref a3)), .unset] [(.int (0 : Int32))])) st8 ?_
    refine own_st (T' := T8) (f' := (mkF m 50 #[(.val (.int x0)), (.val (.int x1)), (.val (.int x2)), (.val (.int v)), (.val (.int w)), (.val (.ref a1)), (.val (.ref a3)), .unset] [])) (fun _ kont => XS.ifYes X8.here hx rfl (pc0 := 45) (pc' := 50) rfl (hb hby at_45) rfl ((if0 _ _).trans (teq (by decide : (0 : Int32) = (0 : Int32))).1) (by decide) (by decide) kont) ?_
    refine own_st (T' := T8) (f' := (mkF m 52 #[(.val (.int x0)), (.val (.int x1)), (.val (.int x2)), (.val (.int v)), (.val (.int w)), (.val (.ref a1)), (.val (.ref a3)), .unset] [(.ref a1)])) (fun _ kont => XS.aload X8.here hx rfl (hb hby at_50) rfl rfl kont) ?_
    obtain ⟨v9, T9, L9, hQ9, X9, st9⟩ := own_callV X8 hx hZ e8 hown (hw _ (List.mem_of_getElem? (i := 21) rfl)) (hw _ (List.mem_of_getElem? (i := 22) rfl)) (hw _ (List.mem_of_getElem? (i := 24) rfl)) (hw _ (List.mem_of_getElem? (i := 23) rfl)) (by decide) (b := a1) Y6 (hw _ (List.mem_of_getElem? (i := 25) rfl)) (hw _ (List.mem_of_getElem? (i := 3) rfl)) (own_k5_2 l Z a0 hw a1 v h3 Y6 Y7 hMv) (g := (mkF m 52 #[(.val (.int x0)), (.val (.int x1)), (.val (.int x2)), (.val (.int v)), (.val (.int w)), (.val (.ref a1)), (.val (.ref a3)), .unset] [(.ref a1)])) rfl (by rw [hml]; rfl) rfl (argsL := []) (rest := []) rfl (lenOf own_pd0 rfl) rfl (hb hby at_52) (Nat.le_of_ble_eq_true rfl) (Nat.le_of_ble_eq_true rfl) (Nat.le_of_ble_eq_true rfl) (Nat.le_of_ble_eq_true rfl)
    obtain ⟨rfl, rfl, e9⟩ := hQ9
    rw [List.append_nil] at X9
    refine own_st (T' := T9) (f' := (mkF m 55 #[(.val (.int x0)), (.val (.int x1)), (.val (.int x2)), (.val (.int v)), (.val (.int w)), (.val (.ref a1)), (.val (.ref a3)), .unset] [(.int v)])) st9 ?_
    refine own_st (T' := T9) (f' := (mkF m 56 #[(.val (.int x0)), (.val (.int x1)), (.val (.int x2)), (.val (.int v)), (.val (.int w)), (.val (.ref a1)), (.val (.ref a3)), .unset] [(.int v), (.int v)])) (fun _ kont => XS.iloadN X9.here hx rfl (hb hby at_55) rfl kont) ?_
    refine own_st (T' := T9) (f' := (mkF m 61 #[(.val (.int x0)), (.val (.int x1)), (.val (.int x2)), (.val (.int v)), (.val (.int w)), (.val (.ref a1)), (.val (.ref a3)), .unset] [])) (fun _ kont => XS.icmpYes X9.here hx rfl (pc0 := 56) (pc' := 61) rfl (hb hby at_56) rfl (teq (rfl : v = v)).1 (by decide) (by decide) kont) ?_
    refine own_st (T' := T9) (f' := (mkF m 62 #[(.val (.int x0)), (.val (.int x1)), (.val (.int x2)), (.val (.int v)), (.val (.int w)), (.val (.ref a1)), (.val (.ref a3)), .unset] [(.int v)])) (fun _ kont => XS.iloadN X9.here hx rfl (hb hby at_61) rfl kont) ?_
    refine own_st (T' := T9) (f' := (mkF m 64 #[(.val (.int x0)), (.val (.int x1)), (.val (.int x2)), (.val (.int v)), (.val (.int w)), (.val (.ref a1)), (.val (.ref a3)), .unset] [(.int w), (.int v)])) (fun _ kont => XS.iload X9.here hx rfl (hb hby at_62) rfl kont) ?_
    by_cases c1 : v < w
    · refine own_st (T' := T9) (f' := (mkF m 67 #[(.val (.int x0)), (.val (.int x1)), (.val (.int x2)), (.val (.int v)), (.val (.int w)), (.val (.ref a1)), (.val (.ref a3)), .unset] [])) (fun _ kont => XS.icmpNo X9.here hx rfl (hb hby at_64) rfl (tlt c1).2.1 kont) ?_
      refine own_st (T' := T9) (f' := (mkF m 68 #[(.val (.int x0)), (.val (.int x1)), (.val (.int x2)), (.val (.int v)), (.val (.int w)), (.val (.ref a1)), (.val (.ref a3)), .unset] [(.int (-1 : Int32))])) (fun _ kont => XS.iconst X9.here hx rfl (hb hby at_67) kont) ?_
      refine own_st (T' := T9) (f' := (mkF m 82 #[(.val (.int x0)), (.val (.int x1)), (.val (.int x2)), (.val (.int v)), (.val (.int w)), (.val (.ref a1)), (.val (.ref a3)), .unset] [(.int (-1 : Int32))])) (fun _ kont => XS.goto X9.here hx rfl (pc0 := 68) (pc' := 82) rfl (hb hby at_68) (by decide) (by decide) kont) ?_
      refine own_st (T' := T9) (f' := (mkF m 84 #[(.val (.int x0)), (.val (.int x1)), (.val (.int x2)), (.val (.int v)), (.val (.int w)), (.val (.ref a1)), (.val (.ref a3)), (.val (.int (-1 : Int32)))] [])) (fun _ kont => XS.istore X9.here hx rfl (hb hby at_82) rfl (l' := #[(.val (.int x0)), (.val (.int x1)), (.val (.int x2)), (.val (.int v)), (.val (.int w)), (.val (.ref a1)), (.val (.ref a3)), (.val (.int (-1 : Int32)))]) rfl kont) ?_
      refine own_st (T' := T9) (f' := (mkF m 86 #[(.val (.int x0)), (.val (.int x1)), (.val (.int x2)), (.val (.int v)), (.val (.int w)), (.val (.ref a1)), (.val (.ref a3)), (.val (.int (-1 : Int32)))] [(.ref a1)])) (fun _ kont => XS.aload X9.here hx rfl (hb hby at_84) rfl rfl kont) ?_
      refine own_st (T' := T9) (f' := (mkF m 88 #[(.val (.int x0)), (.val (.int x1)), (.val (.int x2)), (.val (.int v)), (.val (.int w)), (.val (.ref a1)), (.val (.ref a3)), (.val (.int (-1 : Int32)))] [(.ref a3), (.ref a1)])) (fun _ kont => XS.aload X9.here hx rfl (hb hby at_86) rfl rfl kont) ?_
      obtain ⟨v10, T10, L10, hQ10, X10, st10⟩ := own_callV X9 hx hZ e9 hown (hw _ (List.mem_of_getElem? (i := 27) rfl)) (hw _ (List.mem_of_getElem? (i := 28) rfl)) (hw _ (List.mem_of_getElem? (i := 30) rfl)) (hw _ (List.mem_of_getElem? (i := 29) rfl)) (by decide) (b := a1) Y6 (hw _ (List.mem_of_getElem? (i := 31) rfl)) (hw _ (List.mem_of_getElem? (i := 3) rfl)) (own_k6_3 l Z a0 hw a1 a3 v w h3 Y7 F3) (g := (mkF m 88 #[(.val (.int x0)), (.val (.int x1)), (.val (.int x2)), (.val (.int v)), (.val (.int w)), (.val (.ref a1)), (.val (.ref a3)), (.val (.int (-1 : Int32)))] [(.ref a3), (.ref a1)])) rfl (by rw [hml]; rfl) rfl (argsL := [(.ref a3)]) (rest := []) rfl (lenOf own_pd7 rfl) rfl (hb hby at_88) (Nat.le_of_ble_eq_true rfl) (Nat.le_of_ble_eq_true rfl) (Nat.le_of_ble_eq_true rfl) (Nat.le_of_ble_eq_true rfl)
      obtain ⟨rfl, rfl, e10⟩ := hQ10
      rw [List.append_nil] at X10
      rw [if_pos c1] at st10
      refine own_st (T' := T10) (f' := (mkF m 91 #[(.val (.int x0)), (.val (.int x1)), (.val (.int x2)), (.val (.int v)), (.val (.int w)), (.val (.ref a1)), (.val (.ref a3)), (.val (.int (-1 : Int32)))] [(.int (-1 : Int32))])) st10 ?_
      obtain ⟨v11, T11, L11, hQ11, X11, st11⟩ := own_callS X10 hx hZ e10 hown (hw _ (List.mem_of_getElem? (i := 36) rfl)) (hw _ (List.mem_of_getElem? (i := 37) rfl)) (by decide) (hw _ (List.mem_of_getElem? (i := 39) rfl)) (hw _ (List.mem_of_getElem? (i := 38) rfl)) (own_k8_5 l Z a0 hw  h3 ) (g := (mkF m 91 #[(.val (.int x0)), (.val (.int x1)), (.val (.int x2)), (.val (.int v)), (.val (.int w)), (.val (.ref a1)), (.val (.ref a3)), (.val (.int (-1 : Int32)))] [(.int (-1 : Int32))])) rfl (by rw [hml]; rfl) rfl (argsL := [(.int (-1 : Int32))]) (rest := []) rfl (lenOf own_pd3 rfl) rfl (hb hby at_91) (Nat.le_of_ble_eq_true rfl) (Nat.le_of_ble_eq_true rfl) (Nat.le_of_ble_eq_true rfl) (Nat.le_of_ble_eq_true rfl)
      obtain ⟨rfl, rfl, e11⟩ := hQ11
      rw [List.append_nil] at X11
      refine own_st (T' := T11) (f' := (mkF m 94 #[(.val (.int x0)), (.val (.int x1)), (.val (.int x2)), (.val (.int v)), (.val (.int w)), (.val (.ref a1)), (.val (.ref a3)), (.val (.int (-1 : Int32)))] [(.int (-1 : Int32))])) st11 ?_
      refine own_st (T' := T11) (f' := (mkF m 96 #[(.val (.int x0)), (.val (.int x1)), (.val (.int x2)), (.val (.int v)), (.val (.int w)), (.val (.ref a1)), (.val (.ref a3)), (.val (.int (-1 : Int32)))] [(.int (-1 : Int32)), (.int (-1 : Int32))])) (fun _ kont => XS.iload X11.here hx rfl (hb hby at_94) rfl kont) ?_
      refine own_st (T' := T11) (f' := (mkF m 101 #[(.val (.int x0)), (.val (.int x1)), (.val (.int x2)), (.val (.int v)), (.val (.int w)), (.val (.ref a1)), (.val (.ref a3)), (.val (.int (-1 : Int32)))] [])) (fun _ kont => XS.icmpYes X11.here hx rfl (pc0 := 96) (pc' := 101) rfl (hb hby at_96) rfl (teq (by decide : (-1 : Int32) = (-1 : Int32))).1 (by decide) (by decide) kont) ?_
      refine own_st (T' := T11) (f' := (mkF m 103 #[(.val (.int x0)), (.val (.int x1)), (.val (.int x2)), (.val (.int v)), (.val (.int w)), (.val (.ref a1)), (.val (.ref a3)), (.val (.int (-1 : Int32)))] [(.ref a1)])) (fun _ kont => XS.aload X11.here hx rfl (hb hby at_101) rfl rfl kont) ?_
      refine own_st (T' := T11) (f' := (mkF m 105 #[(.val (.int x0)), (.val (.int x1)), (.val (.int x2)), (.val (.int v)), (.val (.int w)), (.val (.ref a1)), (.val (.ref a3)), (.val (.int (-1 : Int32)))] [(.ref a3), (.ref a1)])) (fun _ kont => XS.aload X11.here hx rfl (hb hby at_103) rfl rfl kont) ?_
      obtain ⟨v12, T12, L12, hQ12, X12, st12⟩ := own_callV X11 hx hZ e11 hown (hw _ (List.mem_of_getElem? (i := 40) rfl)) (hw _ (List.mem_of_getElem? (i := 41) rfl)) (hw _ (List.mem_of_getElem? (i := 43) rfl)) (hw _ (List.mem_of_getElem? (i := 42) rfl)) (by decide) (b := a1) Y6 (hw _ (List.mem_of_getElem? (i := 44) rfl)) (hw _ (List.mem_of_getElem? (i := 3) rfl)) (own_k9_6 l Z a0 hw a1 a3 w v h3 A3 F3 Y7) (g := (mkF m 105 #[(.val (.int x0)), (.val (.int x1)), (.val (.int x2)), (.val (.int v)), (.val (.int w)), (.val (.ref a1)), (.val (.ref a3)), (.val (.int (-1 : Int32)))] [(.ref a3), (.ref a1)])) rfl (by rw [hml]; rfl) rfl (argsL := [(.ref a3)]) (rest := []) rfl (lenOf own_pd8 rfl) rfl (hb hby at_105) (Nat.le_of_ble_eq_true rfl) (Nat.le_of_ble_eq_true rfl) (Nat.le_of_ble_eq_true rfl) (Nat.le_of_ble_eq_true rfl)
      obtain ⟨rfl, rfl, e12⟩ := hQ12
      rw [List.append_nil] at X12
      by_cases c2 : w = v
      · rw [if_pos c2] at st12
        refine own_st (T' := T12) (f' := (mkF m 108 #[(.val (.int x0)), (.val (.int x1)), (.val (.int x2)), (.val (.int v)), (.val (.int w)), (.val (.ref a1)), (.val (.ref a3)), (.val (.int (-1 : Int32)))] [(.int (1 : Int32))])) st12 ?_
        refine own_st (T' := T12) (f' := (mkF m 109 #[(.val (.int x0)), (.val (.int x1)), (.val (.int x2)), (.val (.int v)), (.val (.int w)), (.val (.ref a1)), (.val (.ref a3)), (.val (.int (-1 : Int32)))] [(.int v), (.int (1 : Int32))])) (fun _ kont => XS.iloadN X12.here hx rfl (hb hby at_108) rfl kont) ?_
        refine own_st (T' := T12) (f' := (mkF m 111 #[(.val (.int x0)), (.val (.int x1)), (.val (.int x2)), (.val (.int v)), (.val (.int w)), (.val (.ref a1)), (.val (.ref a3)), (.val (.int (-1 : Int32)))] [(.int w), (.int v), (.int (1 : Int32))])) (fun _ kont => XS.iload X12.here hx rfl (hb hby at_109) rfl kont) ?_
        refine own_st (T' := T12) (f' := (mkF m 114 #[(.val (.int x0)), (.val (.int x1)), (.val (.int x2)), (.val (.int v)), (.val (.int w)), (.val (.ref a1)), (.val (.ref a3)), (.val (.int (-1 : Int32)))] [(.int (1 : Int32))])) (fun _ kont => XS.icmpNo X12.here hx rfl (hb hby at_111) rfl (teq (Eq.symm c2)).2 kont) ?_
        refine own_st (T' := T12) (f' := (mkF m 115 #[(.val (.int x0)), (.val (.int x1)), (.val (.int x2)), (.val (.int v)), (.val (.int w)), (.val (.ref a1)), (.val (.ref a3)), (.val (.int (-1 : Int32)))] [(.int (1 : Int32)), (.int (1 : Int32))])) (fun _ kont => XS.iconst X12.here hx rfl (hb hby at_114) kont) ?_
        refine own_st (T' := T12) (f' := (mkF m 119 #[(.val (.int x0)), (.val (.int x1)), (.val (.int x2)), (.val (.int v)), (.val (.int w)), (.val (.ref a1)), (.val (.ref a3)), (.val (.int (-1 : Int32)))] [(.int (1 : Int32)), (.int (1 : Int32))])) (fun _ kont => XS.goto X12.here hx rfl (pc0 := 115) (pc' := 119) rfl (hb hby at_115) (by decide) (by decide) kont) ?_
        refine own_st (T' := T12) (f' := (mkF m 124 #[(.val (.int x0)), (.val (.int x1)), (.val (.int x2)), (.val (.int v)), (.val (.int w)), (.val (.ref a1)), (.val (.ref a3)), (.val (.int (-1 : Int32)))] [])) (fun _ kont => XS.icmpYes X12.here hx rfl (pc0 := 119) (pc' := 124) rfl (hb hby at_119) rfl (teq (by decide : (1 : Int32) = (1 : Int32))).1 (by decide) (by decide) kont) ?_
        refine own_st (T' := T12) (f' := (mkF m 126 #[(.val (.int x0)), (.val (.int x1)), (.val (.int x2)), (.val (.int v)), (.val (.int w)), (.val (.ref a1)), (.val (.ref a3)), (.val (.int (-1 : Int32)))] [(.ref a1)])) (fun _ kont => XS.aload X12.here hx rfl (hb hby at_124) rfl rfl kont) ?_
        obtain ⟨T13, X13, e13, st13⟩ := getS2 X12 hx hZ hown (host := "") (Or.inl (hw _ (List.mem_of_getElem? (i := 46) rfl))) Via.refl e12 (S_Rank_INFINITE.ext EX3) (g := (mkF m 126 #[(.val (.int x0)), (.val (.int x1)), (.val (.int x2)), (.val (.int v)), (.val (.int w)), (.val (.ref a1)), (.val (.ref a3)), (.val (.int (-1 : Int32)))] [(.ref a1)])) rfl (hb hby at_126)
        refine own_st (T' := T13) (f' := (mkF m 129 #[(.val (.int x0)), (.val (.int x1)), (.val (.int x2)), (.val (.int v)), (.val (.int w)), (.val (.ref a1)), (.val (.ref a3)), (.val (.int (-1 : Int32)))] [(.ref s_Rank_INFINITE), (.ref a1)])) st13 ?_
        obtain ⟨v14, T14, L14, hQ14, X14, st14⟩ := own_callV X13 hx hZ e13 hown (hw _ (List.mem_of_getElem? (i := 27) rfl)) (hw _ (List.mem_of_getElem? (i := 28) rfl)) (hw _ (List.mem_of_getElem? (i := 30) rfl)) (hw _ (List.mem_of_getElem? (i := 29) rfl)) (by decide) (b := a1) Y6 (hw _ (List.mem_of_getElem? (i := 31) rfl)) (hw _ (List.mem_of_getElem? (i := 3) rfl)) (own_k6_7 l Z a0 hw a1 s_Rank_INFINITE v h3 Y7 (F_Rank_INFINITE_value.ext EX3)) (g := (mkF m 129 #[(.val (.int x0)), (.val (.int x1)), (.val (.int x2)), (.val (.int v)), (.val (.int w)), (.val (.ref a1)), (.val (.ref a3)), (.val (.int (-1 : Int32)))] [(.ref s_Rank_INFINITE), (.ref a1)])) rfl (by rw [hml]; rfl) rfl (argsL := [(.ref s_Rank_INFINITE)]) (rest := []) rfl (lenOf own_pd7 rfl) rfl (hb hby at_129) (Nat.le_of_ble_eq_true rfl) (Nat.le_of_ble_eq_true rfl) (Nat.le_of_ble_eq_true rfl) (Nat.le_of_ble_eq_true rfl)
        obtain ⟨rfl, rfl, e14⟩ := hQ14
        rw [List.append_nil] at X14
        rw [if_pos hLv] at st14
        refine own_st (T' := T14) (f' := (mkF m 132 #[(.val (.int x0)), (.val (.int x1)), (.val (.int x2)), (.val (.int v)), (.val (.int w)), (.val (.ref a1)), (.val (.ref a3)), (.val (.int (-1 : Int32)))] [(.int (-1 : Int32))])) st14 ?_
        refine own_st (T' := T14) (f' := (mkF m 137 #[(.val (.int x0)), (.val (.int x1)), (.val (.int x2)), (.val (.int v)), (.val (.int w)), (.val (.ref a1)), (.val (.ref a3)), (.val (.int (-1 : Int32)))] [])) (fun _ kont => XS.ifYes X14.here hx rfl (pc0 := 132) (pc' := 137) rfl (hb hby at_132) rfl ((if0 _ _).trans (tlt (by decide : (-1 : Int32) < (0 : Int32))).1) (by decide) (by decide) kont) ?_
        refine own_st (T' := T14) (f' := (mkF m 138 #[(.val (.int x0)), (.val (.int x1)), (.val (.int x2)), (.val (.int v)), (.val (.int w)), (.val (.ref a1)), (.val (.ref a3)), (.val (.int (-1 : Int32)))] [(.int (1 : Int32))])) (fun _ kont => XS.iconst X14.here hx rfl (hb hby at_137) kont) ?_
        exact own_retN X14 hx hlk (t := .boolean) hret (by simp) (hb hby at_138) ⟨rfl, N_3⟩ (by decide) (by decide)
      · rw [if_neg c2] at st12
        refine own_st (T' := T12) (f' := (mkF m 108 #[(.val (.int x0)), (.val (.int x1)), (.val (.int x2)), (.val (.int v)), (.val (.int w)), (.val (.ref a1)), (.val (.ref a3)), (.val (.int (-1 : Int32)))] [(.int (0 : Int32))])) st12 ?_
        refine own_st (T' := T12) (f' := (mkF m 109 #[(.val (.int x0)), (.val (.int x1)), (.val (.int x2)), (.val (.int v)), (.val (.int w)), (.val (.ref a1)), (.val (.ref a3)), (.val (.int (-1 : Int32)))] [(.int v), (.int (0 : Int32))])) (fun _ kont => XS.iloadN X12.here hx rfl (hb hby at_108) rfl kont) ?_
        refine own_st (T' := T12) (f' := (mkF m 111 #[(.val (.int x0)), (.val (.int x1)), (.val (.int x2)), (.val (.int v)), (.val (.int w)), (.val (.ref a1)), (.val (.ref a3)), (.val (.int (-1 : Int32)))] [(.int w), (.int v), (.int (0 : Int32))])) (fun _ kont => XS.iload X12.here hx rfl (hb hby at_109) rfl kont) ?_
        refine own_st (T' := T12) (f' := (mkF m 118 #[(.val (.int x0)), (.val (.int x1)), (.val (.int x2)), (.val (.int v)), (.val (.int w)), (.val (.ref a1)), (.val (.ref a3)), (.val (.int (-1 : Int32)))] [(.int (0 : Int32))])) (fun _ kont => XS.icmpYes X12.here hx rfl (pc0 := 111) (pc' := 118) rfl (hb hby at_111) rfl (feq (fun q => c2 (Eq.symm q))).2 (by decide) (by decide) kont) ?_
        refine own_st (T' := T12) (f' := (mkF m 119 #[(.val (.int x0)), (.val (.int x1)), (.val (.int x2)), (.val (.int v)), (.val (.int w)), (.val (.ref a1)), (.val (.ref a3)), (.val (.int (-1 : Int32)))] [(.int (0 : Int32)), (.int (0 : Int32))])) (fun _ kont => XS.iconst X12.here hx rfl (hb hby at_118) kont) ?_
        refine own_st (T' := T12) (f' := (mkF m 124 #[(.val (.int x0)), (.val (.int x1)), (.val (.int x2)), (.val (.int v)), (.val (.int w)), (.val (.ref a1)), (.val (.ref a3)), (.val (.int (-1 : Int32)))] [])) (fun _ kont => XS.icmpYes X12.here hx rfl (pc0 := 119) (pc' := 124) rfl (hb hby at_119) rfl (teq (by decide : (0 : Int32) = (0 : Int32))).1 (by decide) (by decide) kont) ?_
        refine own_st (T' := T12) (f' := (mkF m 126 #[(.val (.int x0)), (.val (.int x1)), (.val (.int x2)), (.val (.int v)), (.val (.int w)), (.val (.ref a1)), (.val (.ref a3)), (.val (.int (-1 : Int32)))] [(.ref a1)])) (fun _ kont => XS.aload X12.here hx rfl (hb hby at_124) rfl rfl kont) ?_
        obtain ⟨T15, X15, e15, st15⟩ := getS2 X12 hx hZ hown (host := "") (Or.inl (hw _ (List.mem_of_getElem? (i := 46) rfl))) Via.refl e12 (S_Rank_INFINITE.ext EX3) (g := (mkF m 126 #[(.val (.int x0)), (.val (.int x1)), (.val (.int x2)), (.val (.int v)), (.val (.int w)), (.val (.ref a1)), (.val (.ref a3)), (.val (.int (-1 : Int32)))] [(.ref a1)])) rfl (hb hby at_126)
        refine own_st (T' := T15) (f' := (mkF m 129 #[(.val (.int x0)), (.val (.int x1)), (.val (.int x2)), (.val (.int v)), (.val (.int w)), (.val (.ref a1)), (.val (.ref a3)), (.val (.int (-1 : Int32)))] [(.ref s_Rank_INFINITE), (.ref a1)])) st15 ?_
        obtain ⟨v16, T16, L16, hQ16, X16, st16⟩ := own_callV X15 hx hZ e15 hown (hw _ (List.mem_of_getElem? (i := 27) rfl)) (hw _ (List.mem_of_getElem? (i := 28) rfl)) (hw _ (List.mem_of_getElem? (i := 30) rfl)) (hw _ (List.mem_of_getElem? (i := 29) rfl)) (by decide) (b := a1) Y6 (hw _ (List.mem_of_getElem? (i := 31) rfl)) (hw _ (List.mem_of_getElem? (i := 3) rfl)) (own_k6_7 l Z a0 hw a1 s_Rank_INFINITE v h3 Y7 (F_Rank_INFINITE_value.ext EX3)) (g := (mkF m 129 #[(.val (.int x0)), (.val (.int x1)), (.val (.int x2)), (.val (.int v)), (.val (.int w)), (.val (.ref a1)), (.val (.ref a3)), (.val (.int (-1 : Int32)))] [(.ref s_Rank_INFINITE), (.ref a1)])) rfl (by rw [hml]; rfl) rfl (argsL := [(.ref s_Rank_INFINITE)]) (rest := []) rfl (lenOf own_pd7 rfl) rfl (hb hby at_129) (Nat.le_of_ble_eq_true rfl) (Nat.le_of_ble_eq_true rfl) (Nat.le_of_ble_eq_true rfl) (Nat.le_of_ble_eq_true rfl)
        obtain ⟨rfl, rfl, e16⟩ := hQ16
        rw [List.append_nil] at X16
        rw [if_pos hLv] at st16
        refine own_st (T' := T16) (f' := (mkF m 132 #[(.val (.int x0)), (.val (.int x1)), (.val (.int x2)), (.val (.int v)), (.val (.int w)), (.val (.ref a1)), (.val (.ref a3)), (.val (.int (-1 : Int32)))] [(.int (-1 : Int32))])) st16 ?_
        refine own_st (T' := T16) (f' := (mkF m 137 #[(.val (.int x0)), (.val (.int x1)), (.val (.int x2)), (.val (.int v)), (.val (.int w)), (.val (.ref a1)), (.val (.ref a3)), (.val (.int (-1 : Int32)))] [])) (fun _ kont => XS.ifYes X16.here hx rfl (pc0 := 132) (pc' := 137) rfl (hb hby at_132) rfl ((if0 _ _).trans (tlt (by decide : (-1 : Int32) < (0 : Int32))).1) (by decide) (by decide) kont) ?_
        refine own_st (T' := T16) (f' := (mkF m 138 #[(.val (.int x0)), (.val (.int x1)), (.val (.int x2)), (.val (.int v)), (.val (.int w)), (.val (.ref a1)), (.val (.ref a3)), (.val (.int (-1 : Int32)))] [(.int (1 : Int32))])) (fun _ kont => XS.iconst X16.here hx rfl (hb hby at_137) kont) ?_
        exact own_retN X16 hx hlk (t := .boolean) hret (by simp) (hb hby at_138) ⟨rfl, N_3⟩ (by decide) (by decide)
    · refine own_st (T' := T9) (f' := (mkF m 71 #[(.val (.int x0)), (.val (.int x1)), (.val (.int x2)), (.val (.int v)), (.val (.int w)), (.val (.ref a1)), (.val (.ref a3)), .unset] [])) (fun _ kont => XS.icmpYes X9.here hx rfl (pc0 := 64) (pc' := 71) rfl (hb hby at_64) rfl (flt c1).2.1 (by decide) (by decide) kont) ?_
      refine own_st (T' := T9) (f' := (mkF m 72 #[(.val (.int x0)), (.val (.int x1)), (.val (.int x2)), (.val (.int v)), (.val (.int w)), (.val (.ref a1)), (.val (.ref a3)), .unset] [(.int v)])) (fun _ kont => XS.iloadN X9.here hx rfl (hb hby at_71) rfl kont) ?_
      refine own_st (T' := T9) (f' := (mkF m 74 #[(.val (.int x0)), (.val (.int x1)), (.val (.int x2)), (.val (.int v)), (.val (.int w)), (.val (.ref a1)), (.val (.ref a3)), .unset] [(.int w), (.int v)])) (fun _ kont => XS.iload X9.here hx rfl (hb hby at_72) rfl kont) ?_
      by_cases c2 : v = w
      · refine own_st (T' := T9) (f' := (mkF m 77 #[(.val (.int x0)), (.val (.int x1)), (.val (.int x2)), (.val (.int v)), (.val (.int w)), (.val (.ref a1)), (.val (.ref a3)), .unset] [])) (fun _ kont => XS.icmpNo X9.here hx rfl (hb hby at_74) rfl (teq c2).2 kont) ?_
        refine own_st (T' := T9) (f' := (mkF m 78 #[(.val (.int x0)), (.val (.int x1)), (.val (.int x2)), (.val (.int v)), (.val (.int w)), (.val (.ref a1)), (.val (.ref a3)), .unset] [(.int (0 : Int32))])) (fun _ kont => XS.iconst X9.here hx rfl (hb hby at_77) kont) ?_
        refine own_st (T' := T9) (f' := (mkF m 82 #[(.val (.int x0)), (.val (.int x1)), (.val (.int x2)), (.val (.int v)), (.val (.int w)), (.val (.ref a1)), (.val (.ref a3)), .unset] [(.int (0 : Int32))])) (fun _ kont => XS.goto X9.here hx rfl (pc0 := 78) (pc' := 82) rfl (hb hby at_78) (by decide) (by decide) kont) ?_
        refine own_st (T' := T9) (f' := (mkF m 84 #[(.val (.int x0)), (.val (.int x1)), (.val (.int x2)), (.val (.int v)), (.val (.int w)), (.val (.ref a1)), (.val (.ref a3)), (.val (.int (0 : Int32)))] [])) (fun _ kont => XS.istore X9.here hx rfl (hb hby at_82) rfl (l' := #[(.val (.int x0)), (.val (.int x1)), (.val (.int x2)), (.val (.int v)), (.val (.int w)), (.val (.ref a1)), (.val (.ref a3)), (.val (.int (0 : Int32)))]) rfl kont) ?_
        refine own_st (T' := T9) (f' := (mkF m 86 #[(.val (.int x0)), (.val (.int x1)), (.val (.int x2)), (.val (.int v)), (.val (.int w)), (.val (.ref a1)), (.val (.ref a3)), (.val (.int (0 : Int32)))] [(.ref a1)])) (fun _ kont => XS.aload X9.here hx rfl (hb hby at_84) rfl rfl kont) ?_
        refine own_st (T' := T9) (f' := (mkF m 88 #[(.val (.int x0)), (.val (.int x1)), (.val (.int x2)), (.val (.int v)), (.val (.int w)), (.val (.ref a1)), (.val (.ref a3)), (.val (.int (0 : Int32)))] [(.ref a3), (.ref a1)])) (fun _ kont => XS.aload X9.here hx rfl (hb hby at_86) rfl rfl kont) ?_
        obtain ⟨v17, T17, L17, hQ17, X17, st17⟩ := own_callV X9 hx hZ e9 hown (hw _ (List.mem_of_getElem? (i := 27) rfl)) (hw _ (List.mem_of_getElem? (i := 28) rfl)) (hw _ (List.mem_of_getElem? (i := 30) rfl)) (hw _ (List.mem_of_getElem? (i := 29) rfl)) (by decide) (b := a1) Y6 (hw _ (List.mem_of_getElem? (i := 31) rfl)) (hw _ (List.mem_of_getElem? (i := 3) rfl)) (own_k6_3 l Z a0 hw a1 a3 v w h3 Y7 F3) (g := (mkF m 88 #[(.val (.int x0)), (.val (.int x1)), (.val (.int x2)), (.val (.int v)), (.val (.int w)), (.val (.ref a1)), (.val (.ref a3)), (.val (.int (0 : Int32)))] [(.ref a3), (.ref a1)])) rfl (by rw [hml]; rfl) rfl (argsL := [(.ref a3)]) (rest := []) rfl (lenOf own_pd7 rfl) rfl (hb hby at_88) (Nat.le_of_ble_eq_true rfl) (Nat.le_of_ble_eq_true rfl) (Nat.le_of_ble_eq_true rfl) (Nat.le_of_ble_eq_true rfl)
        obtain ⟨rfl, rfl, e17⟩ := hQ17
        rw [List.append_nil] at X17
        rw [if_neg c1] at st17
        rw [if_pos c2] at st17
        refine own_st (T' := T17) (f' := (mkF m 91 #[(.val (.int x0)), (.val (.int x1)), (.val (.int x2)), (.val (.int v)), (.val (.int w)), (.val (.ref a1)), (.val (.ref a3)), (.val (.int (0 : Int32)))] [(.int (0 : Int32))])) st17 ?_
        obtain ⟨v18, T18, L18, hQ18, X18, st18⟩ := own_callS X17 hx hZ e17 hown (hw _ (List.mem_of_getElem? (i := 36) rfl)) (hw _ (List.mem_of_getElem? (i := 37) rfl)) (by decide) (hw _ (List.mem_of_getElem? (i := 39) rfl)) (hw _ (List.mem_of_getElem? (i := 38) rfl)) (own_k8_9 l Z a0 hw  h3 ) (g := (mkF m 91 #[(.val (.int x0)), (.val (.int x1)), (.val (.int x2)), (.val (.int v)), (.val (.int w)), (.val (.ref a1)), (.val (.ref a3)), (.val (.int (0 : Int32)))] [(.int (0 : Int32))])) rfl (by rw [hml]; rfl) rfl (argsL := [(.int (0 : Int32))]) (rest := []) rfl (lenOf own_pd3 rfl) rfl (hb hby at_91) (Nat.le_of_ble_eq_true rfl) (Nat.le_of_ble_eq_true rfl) (Nat.le_of_ble_eq_true rfl) (Nat.le_of_ble_eq_true rfl)
        obtain ⟨rfl, rfl, e18⟩ := hQ18
        rw [List.append_nil] at X18
        refine own_st (T' := T18) (f' := (mkF m 94 #[(.val (.int x0)), (.val (.int x1)), (.val (.int x2)), (.val (.int v)), (.val (.int w)), (.val (.ref a1)), (.val (.ref a3)), (.val (.int (0 : Int32)))] [(.int (0 : Int32))])) st18 ?_
        refine own_st (T' := T18) (f' := (mkF m 96 #[(.val (.int x0)), (.val (.int x1)), (.val (.int x2)), (.val (.int v)), (.val (.int w)), (.val (.ref a1)), (.val (.ref a3)), (.val (.int (0 : Int32)))] [(.int (0 : Int32)), (.int (0 : Int32))])) (fun _ kont => XS.iload X18.here hx rfl (hb hby at_94) rfl kont) ?_
        refine own_st (T' := T18) (f' := (mkF m 101 #[(.val (.int x0)), (.val (.int x1)), (.val (.int x2)), (.val (.int v)), (.val (.int w)), (.val (.ref a1)), (.val (.ref a3)), (.val (.int (0 : Int32)))] [])) (fun _ kont => XS.icmpYes X18.here hx rfl (pc0 := 96) (pc' := 101) rfl (hb hby at_96) rfl (teq (by decide : (0 : Int32) = (0 : Int32))).1 (by decide) (by decide) kont) ?_
        refine own_st (T' := T18) (f' := (mkF m 103 #[(.val (.int x0)), (.val (.int x1)), (.val (.int x2)), (.val (.int v)), (.val (.int w)), (.val (.ref a1)), (.val (.ref a3)), (.val (.int (0 : Int32)))] [(.ref a1)])) (fun _ kont => XS.aload X18.here hx rfl (hb hby at_101) rfl rfl kont) ?_
        refine own_st (T' := T18) (f' := (mkF m 105 #[(.val (.int x0)), (.val (.int x1)), (.val (.int x2)), (.val (.int v)), (.val (.int w)), (.val (.ref a1)), (.val (.ref a3)), (.val (.int (0 : Int32)))] [(.ref a3), (.ref a1)])) (fun _ kont => XS.aload X18.here hx rfl (hb hby at_103) rfl rfl kont) ?_
        obtain ⟨v19, T19, L19, hQ19, X19, st19⟩ := own_callV X18 hx hZ e18 hown (hw _ (List.mem_of_getElem? (i := 40) rfl)) (hw _ (List.mem_of_getElem? (i := 41) rfl)) (hw _ (List.mem_of_getElem? (i := 43) rfl)) (hw _ (List.mem_of_getElem? (i := 42) rfl)) (by decide) (b := a1) Y6 (hw _ (List.mem_of_getElem? (i := 44) rfl)) (hw _ (List.mem_of_getElem? (i := 3) rfl)) (own_k9_6 l Z a0 hw a1 a3 w v h3 A3 F3 Y7) (g := (mkF m 105 #[(.val (.int x0)), (.val (.int x1)), (.val (.int x2)), (.val (.int v)), (.val (.int w)), (.val (.ref a1)), (.val (.ref a3)), (.val (.int (0 : Int32)))] [(.ref a3), (.ref a1)])) rfl (by rw [hml]; rfl) rfl (argsL := [(.ref a3)]) (rest := []) rfl (lenOf own_pd8 rfl) rfl (hb hby at_105) (Nat.le_of_ble_eq_true rfl) (Nat.le_of_ble_eq_true rfl) (Nat.le_of_ble_eq_true rfl) (Nat.le_of_ble_eq_true rfl)
        obtain ⟨rfl, rfl, e19⟩ := hQ19
        rw [List.append_nil] at X19
        rw [if_pos (Eq.symm c2)] at st19
        refine own_st (T' := T19) (f' := (mkF m 108 #[(.val (.int x0)), (.val (.int x1)), (.val (.int x2)), (.val (.int v)), (.val (.int w)), (.val (.ref a1)), (.val (.ref a3)), (.val (.int (0 : Int32)))] [(.int (1 : Int32))])) st19 ?_
        refine own_st (T' := T19) (f' := (mkF m 109 #[(.val (.int x0)), (.val (.int x1)), (.val (.int x2)), (.val (.int v)), (.val (.int w)), (.val (.ref a1)), (.val (.ref a3)), (.val (.int (0 : Int32)))] [(.int v), (.int (1 : Int32))])) (fun _ kont => XS.iloadN X19.here hx rfl (hb hby at_108) rfl kont) ?_
        refine own_st (T' := T19) (f' := (mkF m 111 #[(.val (.int x0)), (.val (.int x1)), (.val (.int x2)), (.val (.int v)), (.val (.int w)), (.val (.ref a1)), (.val (.ref a3)), (.val (.int (0 : Int32)))] [(.int w), (.int v), (.int (1 : Int32))])) (fun _ kont => XS.iload X19.here hx rfl (hb hby at_109) rfl kont) ?_
        refine own_st (T' := T19) (f' := (mkF m 114 #[(.val (.int x0)), (.val (.int x1)), (.val (.int x2)), (.val (.int v)), (.val (.int w)), (.val (.ref a1)), (.val (.ref a3)), (.val (.int (0 : Int32)))] [(.int (1 : Int32))])) (fun _ kont => XS.icmpNo X19.here hx rfl (hb hby at_111) rfl (teq c2).2 kont) ?_
        refine own_st (T' := T19) (f' := (mkF m 115 #[(.val (.int x0)), (.val (.int x1)), (.val (.int x2)), (.val (.int v)), (.val (.int w)), (.val (.ref a1)), (.val (.ref a3)), (.val (.int (0 : Int32)))] [(.int (1 : Int32)), (.int (1 : Int32))])) (fun _ kont => XS.iconst X19.here hx rfl (hb hby at_114) kont) ?_
        refine own_st (T' := T19) (f' := (mkF m 119 #[(.val (.int x0)), (.val (.int x1)), (.val (.int x2)), (.val (.int v)), (.val (.int w)), (.val (.ref a1)), (.val (.ref a3)), (.val (.int (0 : Int32)))] [(.int (1 : Int32)), (.int (1 : Int32))])) (fun _ kont => XS.goto X19.here hx rfl (pc0 := 115) (pc' := 119) rfl (hb hby at_115) (by decide) (by decide) kont) ?_
        refine own_st (T' := T19) (f' := (mkF m 124 #[(.val (.int x0)), (.val (.int x1)), (.val (.int x2)), (.val (.int v)), (.val (.int w)), (.val (.ref a1)), (.val (.ref a3)), (.val (.int (0 : Int32)))] [])) (fun _ kont => XS.icmpYes X19.here hx rfl (pc0 := 119) (pc' := 124) rfl (hb hby at_119) rfl (teq (by decide : (1 : Int32) = (1 : Int32))).1 (by decide) (by decide) kont) ?_
        refine own_st (T' := T19) (f' := (mkF m 126 #[(.val (.int x0)), (.val (.int x1)), (.val (.int x2)), (.val (.int v)), (.val (.int w)), (.val (.ref a1)), (.val (.ref a3)), (.val (.int (0 : Int32)))] [(.ref a1)])) (fun _ kont => XS.aload X19.here hx rfl (hb hby at_124) rfl rfl kont) ?_
        obtain ⟨T20, X20, e20, st20⟩ := getS2 X19 hx hZ hown (host := "") (Or.inl (hw _ (List.mem_of_getElem? (i := 46) rfl))) Via.refl e19 (S_Rank_INFINITE.ext EX3) (g := (mkF m 126 #[(.val (.int x0)), (.val (.int x1)), (.val (.int x2)), (.val (.int v)), (.val (.int w)), (.val (.ref a1)), (.val (.ref a3)), (.val (.int (0 : Int32)))] [(.ref a1)])) rfl (hb hby at_126)
        refine own_st (T' := T20) (f' := (mkF m 129 #[(.val (.int x0)), (.val (.int x1)), (.val (.int x2)), (.val (.int v)), (.val (.int w)), (.val (.ref a1)), (.val (.ref a3)), (.val (.int (0 : Int32)))] [(.ref s_Rank_INFINITE), (.ref a1)])) st20 ?_
        obtain ⟨v21, T21, L21, hQ21, X21, st21⟩ := own_callV X20 hx hZ e20 hown (hw _ (List.mem_of_getElem? (i := 27) rfl)) (hw _ (List.mem_of_getElem? (i := 28) rfl)) (hw _ (List.mem_of_getElem? (i := 30) rfl)) (hw _ (List.mem_of_getElem? (i := 29) rfl)) (by decide) (b := a1) Y6 (hw _ (List.mem_of_getElem? (i := 31) rfl)) (hw _ (List.mem_of_getElem? (i := 3) rfl)) (own_k6_7 l Z a0 hw a1 s_Rank_INFINITE v h3 Y7 (F_Rank_INFINITE_value.ext EX3)) (g := (mkF m 129 #[(.val (.int x0)), (.val (.int x1)), (.val (.int x2)), (.val (.int v)), (.val (.int w)), (.val (.ref a1)), (.val (.ref a3)), (.val (.int (0 : Int32)))] [(.ref s_Rank_INFINITE), (.ref a1)])) rfl (by rw [hml]; rfl) rfl (argsL := [(.ref s_Rank_INFINITE)]) (rest := []) rfl (lenOf own_pd7 rfl) rfl (hb hby at_129) (Nat.le_of_ble_eq_true rfl) (Nat.le_of_ble_eq_true rfl) (Nat.le_of_ble_eq_true rfl) (Nat.le_of_ble_eq_true rfl)
        obtain ⟨rfl, rfl, e21⟩ := hQ21
        rw [List.append_nil] at X21
        rw [if_pos hLv] at st21
        refine own_st (T' := T21) (f' := (mkF m 132 #[(.val (.int x0)), (.val (.int x1)), (.val (.int x2)), (.val (.int v)), (.val (.int w)), (.val (.ref a1)), (.val (.ref a3)), (.val (.int (0 : Int32)))] [(.int (-1 : Int32))])) st21 ?_
        refine own_st (T' := T21) (f' := (mkF m 137 #[(.val (.int x0)), (.val (.int x1)), (.val (.int x2)), (.val (.int v)), (.val (.int w)), (.val (.ref a1)), (.val (.ref a3)), (.val (.int (0 : Int32)))] [])) (fun _ kont => XS.ifYes X21.here hx rfl (pc0 := 132) (pc' := 137) rfl (hb hby at_132) rfl ((if0 _ _).trans (tlt (by decide : (-1 : Int32) < (0 : Int32))).1) (by decide) (by decide) kont) ?_
        refine own_st (T' := T21) (f' := (mkF m 138 #[(.val (.int x0)), (.val (.int x1)), (.val (.int x2)), (.val (.int v)), (.val (.int w)), (.val (.ref a1)), (.val (.ref a3)), (.val (.int (0 : Int32)))] [(.int (1 : Int32))])) (fun _ kont => XS.iconst X21.here hx rfl (hb hby at_137) kont) ?_
        exact own_retN X21 hx hlk (t := .boolean) hret (by simp) (hb hby at_138) ⟨rfl, N_3⟩ (by decide) (by decide)
      · refine own_st (T' := T9) (f' := (mkF m 81 #[(.val (.int x0)), (.val (.int x1)), (.val (.int x2)), (.val (.int v)), (.val (.int w)), (.val (.ref a1)), (.val (.ref a3)), .unset] [])) (fun _ kont => XS.icmpYes X9.here hx rfl (pc0 := 74) (pc' := 81) rfl (hb hby at_74) rfl (feq c2).2 (by decide) (by decide) kont) ?_
        refine own_st (T' := T9) (f' := (mkF m 82 #[(.val (.int x0)), (.val (.int x1)), (.val (.int x2)), (.val (.int v)), (.val (.int w)), (.val (.ref a1)), (.val (.ref a3)), .unset] [(.int (1 : Int32))])) (fun _ kont => XS.iconst X9.here hx rfl (hb hby at_81) kont) ?_
        refine own_st (T' := T9) (f' := (mkF m 84 #[(.val (.int x0)), (.val (.int x1)), (.val (.int x2)), (.val (.int v)), (.val (.int w)), (.val (.ref a1)), (.val (.ref a3)), (.val (.int (1 : Int32)))] [])) (fun _ kont => XS.istore X9.here hx rfl (hb hby at_82) rfl (l' := #[(.val (.int x0)), (.val (.int x1)), (.val (.int x2)), (.val (.int v)), (.val (.int w)), (.val (.ref a1)), (.val (.ref a3)), (.val (.int (1 : Int32)))]) rfl kont) ?_
        refine own_st (T' := T9) (f' := (mkF m 86 #[(.val (.int x0)), (.val (.int x1)), (.val (.int x2)), (.val (.int v)), (.val (.int w)), (.val (.ref a1)), (.val (.ref a3)), (.val (.int (1 : Int32)))] [(.ref a1)])) (fun _ kont => XS.aload X9.here hx rfl (hb hby at_84) rfl rfl kont) ?_
        refine own_st (T' := T9) (f' := (mkF m 88 #[(.val (.int x0)), (.val (.int x1)), (.val (.int x2)), (.val (.int v)), (.val (.int w)), (.val (.ref a1)), (.val (.ref a3)), (.val (.int (1 : Int32)))] [(.ref a3), (.ref a1)])) (fun _ kont => XS.aload X9.here hx rfl (hb hby at_86) rfl rfl kont) ?_
        obtain ⟨v22, T22, L22, hQ22, X22, st22⟩ := own_callV X9 hx hZ e9 hown (hw _ (List.mem_of_getElem? (i := 27) rfl)) (hw _ (List.mem_of_getElem? (i := 28) rfl)) (hw _ (List.mem_of_getElem? (i := 30) rfl)) (hw _ (List.mem_of_getElem? (i := 29) rfl)) (by decide) (b := a1) Y6 (hw _ (List.mem_of_getElem? (i := 31) rfl)) (hw _ (List.mem_of_getElem? (i := 3) rfl)) (own_k6_3 l Z a0 hw a1 a3 v w h3 Y7 F3) (g := (mkF m 88 #[(.val (.int x0)), (.val (.int x1)), (.val (.int x2)), (.val (.int v)), (.val (.int w)), (.val (.ref a1)), (.val (.ref a3)), (.val (.int (1 : Int32)))] [(.ref a3), (.ref a1)])) rfl (by rw [hml]; rfl) rfl (argsL := [(.ref a3)]) (rest := []) rfl (lenOf own_pd7 rfl) rfl (hb hby at_88) (Nat.le_of_ble_eq_true rfl) (Nat.le_of_ble_eq_true rfl) (Nat.le_of_ble_eq_true rfl) (Nat.le_of_ble_eq_true rfl)
        obtain ⟨rfl, rfl, e22⟩ := hQ22
        rw [List.append_nil] at X22
        rw [if_neg c1] at st22
        rw [if_neg c2] at st22
        refine own_st (T' := T22) (f' := (mkF m 91 #[(.val (.int x0)), (.val (.int x1)), (.val (.int x2)), (.val (.int v)), (.val (.int w)), (.val (.ref a1)), (.val (.ref a3)), (.val (.int (1 : Int32)))] [(.int (1 : Int32))])) st22 ?_
        obtain ⟨v23, T23, L23, hQ23, X23, st23⟩ := own_callS X22 hx hZ e22 hown (hw _ (List.mem_of_getElem? (i := 36) rfl)) (hw _ (List.mem_of_getElem? (i := 37) rfl)) (by decide) (hw _ (List.mem_of_getElem? (i := 39) rfl)) (hw _ (List.mem_of_getElem? (i := 38) rfl)) (own_k8_10 l Z a0 hw  h3 ) (g := (mkF m 91 #[(.val (.int x0)), (.val (.int x1)), (.val (.int x2)), (.val (.int v)), (.val (.int w)), (.val (.ref a1)), (.val (.ref a3)), (.val (.int (1 : Int32)))] [(.int (1 : Int32))])) rfl (by rw [hml]; rfl) rfl (argsL := [(.int (1 : Int32))]) (rest := []) rfl (lenOf own_pd3 rfl) rfl (hb hby at_91) (Nat.le_of_ble_eq_true rfl) (Nat.le_of_ble_eq_true rfl) (Nat.le_of_ble_eq_true rfl) (Nat.le_of_ble_eq_true rfl)
        obtain ⟨rfl, rfl, e23⟩ := hQ23
        rw [List.append_nil] at X23
        refine own_st (T' := T23) (f' := (mkF m 94 #[(.val (.int x0)), (.val (.int x1)), (.val (.int x2)), (.val (.int v)), (.val (.int w)), (.val (.ref a1)), (.val (.ref a3)), (.val (.int (1 : Int32)))] [(.int (1 : Int32))])) st23 ?_
        refine own_st (T' := T23) (f' := (mkF m 96 #[(.val (.int x0)), (.val (.int x1)), (.val (.int x2)), (.val (.int v)), (.val (.int w)), (.val (.ref a1)), (.val (.ref a3)), (.val (.int (1 : Int32)))] [(.int (1 : Int32)), (.int (1 : Int32))])) (fun _ kont => XS.iload X23.here hx rfl (hb hby at_94) rfl kont) ?_
        refine own_st (T' := T23) (f' := (mkF m 101 #[(.val (.int x0)), (.val (.int x1)), (.val (.int x2)), (.val (.int v)), (.val (.int w)), (.val (.ref a1)), (.val (.ref a3)), (.val (.int (1 : Int32)))] [])) (fun _ kont => XS.icmpYes X23.here hx rfl (pc0 := 96) (pc' := 101) rfl (hb hby at_96) rfl (teq (by decide : (1 : Int32) = (1 : Int32))).1 (by decide) (by decide) kont) ?_
        refine own_st (T' := T23) (f' := (mkF m 103 #[(.val (.int x0)), (.val (.int x1)), (.val (.int x2)), (.val (.int v)), (.val (.int w)), (.val (.ref a1)), (.val (.ref a3)), (.val (.int (1 : Int32)))] [(.ref a1)])) (fun _ kont => XS.aload X23.here hx rfl (hb hby at_101) rfl rfl kont) ?_
        refine own_st (T' := T23) (f' := (mkF m 105 #[(.val (.int x0)), (.val (.int x1)), (.val (.int x2)), (.val (.int v)), (.val (.int w)), (.val (.ref a1)), (.val (.ref a3)), (.val (.int (1 : Int32)))] [(.ref a3), (.ref a1)])) (fun _ kont => XS.aload X23.here hx rfl (hb hby at_103) rfl rfl kont) ?_
        obtain ⟨v24, T24, L24, hQ24, X24, st24⟩ := own_callV X23 hx hZ e23 hown (hw _ (List.mem_of_getElem? (i := 40) rfl)) (hw _ (List.mem_of_getElem? (i := 41) rfl)) (hw _ (List.mem_of_getElem? (i := 43) rfl)) (hw _ (List.mem_of_getElem? (i := 42) rfl)) (by decide) (b := a1) Y6 (hw _ (List.mem_of_getElem? (i := 44) rfl)) (hw _ (List.mem_of_getElem? (i := 3) rfl)) (own_k9_6 l Z a0 hw a1 a3 w v h3 A3 F3 Y7) (g := (mkF m 105 #[(.val (.int x0)), (.val (.int x1)), (.val (.int x2)), (.val (.int v)), (.val (.int w)), (.val (.ref a1)), (.val (.ref a3)), (.val (.int (1 : Int32)))] [(.ref a3), (.ref a1)])) rfl (by rw [hml]; rfl) rfl (argsL := [(.ref a3)]) (rest := []) rfl (lenOf own_pd8 rfl) rfl (hb hby at_105) (Nat.le_of_ble_eq_true rfl) (Nat.le_of_ble_eq_true rfl) (Nat.le_of_ble_eq_true rfl) (Nat.le_of_ble_eq_true rfl)
        obtain ⟨rfl, rfl, e24⟩ := hQ24
        rw [List.append_nil] at X24
        rw [if_neg (fun q => c2 (Eq.symm q))] at st24
        refine own_st (T' := T24) (f' := (mkF m 108 #[(.val (.int x0)), (.val (.int x1)), (.val (.int x2)), (.val (.int v)), (.val (.int w)), (.val (.ref a1)), (.val (.ref a3)), (.val (.int (1 : Int32)))] [(.int (0 : Int32))])) st24 ?_
        refine own_st (T' := T24) (f' := (mkF m 109 #[(.val (.int x0)), (.val (.int x1)), (.val (.int x2)), (.val (.int v)), (.val (.int w)), (.val (.ref a1)), (.val (.ref a3)), (.val (.int (1 : Int32)))] [(.int v), (.int (0 : Int32))])) (fun _ kont => XS.iloadN X24.here hx rfl (hb hby at_108) rfl kont) ?_
        refine own_st (T' := T24) (f' := (mkF m 111 #[(.val (.int x0)), (.val (.int x1)), (.val (.int x2)), (.val (.int v)), (.val (.int w)), (.val (.ref a1)), (.val (.ref a3)), (.val (.int (1 : Int32)))] [(.int w), (.int v), (.int (0 : Int32))])) (fun _ kont => XS.iload X24.here hx rfl (hb hby at_109) rfl kont) ?_
        refine own_st (T' := T24) (f' := (mkF m 118 #[(.val (.int x0)), (.val (.int x1)), (.val (.int x2)), (.val (.int v)), (.val (.int w)), (.val (.ref a1)), (.val (.ref a3)), (.val (.int (1 : Int32)))] [(.int (0 : Int32))])) (fun _ kont => XS.icmpYes X24.here hx rfl (pc0 := 111) (pc' := 118) rfl (hb hby at_111) rfl (feq c2).2 (by decide) (by decide) kont) ?_
        refine own_st (T' := T24) (f' := (mkF m 119 #[(.val (.int x0)), (.val (.int x1)), (.val (.int x2)), (.val (.int v)), (.val (.int w)), (.val (.ref a1)), (.val (.ref a3)), (.val (.int (1 : Int32)))] [(.int (0 : Int32)), (.int (0 : Int32))])) (fun _ kont => XS.iconst X24.here hx rfl (hb hby at_118) kont) ?_
        refine own_st (T' := T24) (f' := (mkF m 124 #[(.val (.int x0)), (.val (.int x1)), (.val (.int x2)), (.val (.int v)), (.val (.int w)), (.val (.ref a1)), (.val (.ref a3)), (.val (.int (1 : Int32)))] [])) (fun _ kont => XS.icmpYes X24.here hx rfl (pc0 := 119) (pc' := 124) rfl (hb hby at_119) rfl (teq (by decide : (0 : Int32) = (0 : Int32))).1 (by decide) (by decide) kont) ?_
        refine own_st (T' := T24) (f' := (mkF m 126 #[(.val (.int x0)), (.val (.int x1)), (.val (.int x2)), (.val (.int v)), (.val (.int w)), (.val (.ref a1)), (.val (.ref a3)), (.val (.int (1 : Int32)))] [(.ref a1)])) (fun _ kont => XS.aload X24.here hx rfl (hb hby at_124) rfl rfl kont) ?_
        obtain ⟨T25, X25, e25, st25⟩ := getS2 X24 hx hZ hown (host := "") (Or.inl (hw _ (List.mem_of_getElem? (i := 46) rfl))) Via.refl e24 (S_Rank_INFINITE.ext EX3) (g := (mkF m 126 #[(.val (.int x0)), (.val (.int x1)), (.val (.int x2)), (.val (.int v)), (.val (.int w)), (.val (.ref a1)), (.val (.ref a3)), (.val (.int (1 : Int32)))] [(.ref a1)])) rfl (hb hby at_126)
        refine own_st (T' := T25) (f' := (mkF m 129 #[(.val (.int x0)), (.val (.int x1)), (.val (.int x2)), (.val (.int v)), (.val (.int w)), (.val (.ref a1)), (.val (.ref a3)), (.val (.int (1 : Int32)))] [(.ref s_Rank_INFINITE), (.ref a1)])) st25 ?_
        obtain ⟨v26, T26, L26, hQ26, X26, st26⟩ := own_callV X25 hx hZ e25 hown (hw _ (List.mem_of_getElem? (i := 27) rfl)) (hw _ (List.mem_of_getElem? (i := 28) rfl)) (hw _ (List.mem_of_getElem? (i := 30) rfl)) (hw _ (List.mem_of_getElem? (i := 29) rfl)) (by decide) (b := a1) Y6 (hw _ (List.mem_of_getElem? (i := 31) rfl)) (hw _ (List.mem_of_getElem? (i := 3) rfl)) (own_k6_7 l Z a0 hw a1 s_Rank_INFINITE v h3 Y7 (F_Rank_INFINITE_value.ext EX3)) (g := (mkF m 129 #[(.val (.int x0)), (.val (.int x1)), (.val (.int x2)), (.val (.int v)), (.val (.int w)), (.val (.ref a1)), (.val (.ref a3)), (.val (.int (1 : Int32)))] [(.ref s_Rank_INFINITE), (.ref a1)])) rfl (by rw [hml]; rfl) rfl (argsL := [(.ref s_Rank_INFINITE)]) (rest := []) rfl (lenOf own_pd7 rfl) rfl (hb hby at_129) (Nat.le_of_ble_eq_true rfl) (Nat.le_of_ble_eq_true rfl) (Nat.le_of_ble_eq_true rfl) (Nat.le_of_ble_eq_true rfl)
        obtain ⟨rfl, rfl, e26⟩ := hQ26
        rw [List.append_nil] at X26
        rw [if_pos hLv] at st26
        refine own_st (T' := T26) (f' := (mkF m 132 #[(.val (.int x0)), (.val (.int x1)), (.val (.int x2)), (.val (.int v)), (.val (.int w)), (.val (.ref a1)), (.val (.ref a3)), (.val (.int (1 : Int32)))] [(.int (-1 : Int32))])) st26 ?_
        refine own_st (T' := T26) (f' := (mkF m 137 #[(.val (.int x0)), (.val (.int x1)), (.val (.int x2)), (.val (.int v)), (.val (.int w)), (.val (.ref a1)), (.val (.ref a3)), (.val (.int (1 : Int32)))] [])) (fun _ kont => XS.ifYes X26.here hx rfl (pc0 := 132) (pc' := 137) rfl (hb hby at_132) rfl ((if0 _ _).trans (tlt (by decide : (-1 : Int32) < (0 : Int32))).1) (by decide) (by decide) kont) ?_
        refine own_st (T' := T26) (f' := (mkF m 138 #[(.val (.int x0)), (.val (.int x1)), (.val (.int x2)), (.val (.int v)), (.val (.int w)), (.val (.ref a1)), (.val (.ref a3)), (.val (.int (1 : Int32)))] [(.int (1 : Int32))])) (fun _ kont => XS.iconst X26.here hx rfl (hb hby at_137) kont) ?_
        exact own_retN X26 hx hlk (t := .boolean) hret (by simp) (hb hby at_138) ⟨rfl, N_3⟩ (by decide) (by decide)
  · refine own_st (T' := s₁) (f' := (mkF m 14 #[(.val (.int x0)), (.val (.int x1)), (.val (.int x2)), (.val (.int v)), .unset, .unset, .unset, .unset] [])) (fun _ kont => XS.ifNo X0.here hx rfl (hb hby at_11) rfl ((if0 _ _).trans (feq c0).1) kont) ?_
    refine own_st (T' := s₁) (f' := (mkF m 15 #[(.val (.int x0)), (.val (.int x1)), (.val (.int x2)), (.val (.int v)), .unset, .unset, .unset, .unset] [(.int v)])) (fun _ kont => XS.iloadN X0.here hx rfl (hb hby at_14) rfl kont) ?_
    refine own_st (T' := s₁) (f' := (mkF m 25 #[(.val (.int x0)), (.val (.int x1)), (.val (.int x2)), (.val (.int v)), .unset, .unset, .unset, .unset] [(.int v)])) (fun _ kont => XS.goto X0.here hx rfl (pc0 := 15) (pc' := 25) rfl (hb hby at_15) (by decide) (by decide) kont) ?_
    refine own_st (T' := s₁) (f' := (mkF m 27 #[(.val (.int x0)), (.val (.int x1)), (.val (.int x2)), (.val (.int v)), (.val (.int v)), .unset, .unset, .unset] [])) (fun _ kont => XS.istore X0.here hx rfl (hb hby at_25) rfl (l' := #[(.val (.int x0)), (.val (.int x1)), (.val (.int x2)), (.val (.int v)), (.val (.int v)), .unset, .unset, .unset]) rfl kont) ?_
    refine own_st (T' := s₁) (f' := (mkF m 28 #[(.val (.int x0)), (.val (.int x1)), (.val (.int x2)), (.val (.int v)), (.val (.int v)), .unset, .unset, .unset] [(.int v)])) (fun _ kont => XS.iloadN X0.here hx rfl (hb hby at_27) rfl kont) ?_
    obtain ⟨v27, T27, L27, hQ27, X27, st27⟩ := own_callS X0 hx hZ e0 hown (hw _ (List.mem_of_getElem? (i := 1) rfl)) (hw _ (List.mem_of_getElem? (i := 2) rfl)) (by decide) (hw _ (List.mem_of_getElem? (i := 4) rfl)) (hw _ (List.mem_of_getElem? (i := 3) rfl)) (own_of l Z a0 hw v h0 h0v hMv) (g := (mkF m 28 #[(.val (.int x0)), (.val (.int x1)), (.val (.int x2)), (.val (.int v)), (.val (.int v)), .unset, .unset, .unset] [(.int v)])) rfl (by rw [hml]; rfl) rfl (argsL := [(.int v)]) (rest := []) rfl (lenOf own_pd4 rfl) rfl (hb hby at_28) (Nat.le_of_ble_eq_true rfl) (Nat.le_of_ble_eq_true rfl) (Nat.le_of_ble_eq_true rfl) (Nat.le_of_ble_eq_true rfl)
    obtain ⟨h27, e27⟩ : ∃ z, T27.heap = z := ⟨_, rfl⟩
    rw [e27] at hQ27
    obtain ⟨a27, rfl, zz27, E27, A27, F27, N27⟩ := hQ27
    have ne28 : s_Rank_INFINITE ≠ a27 := Nat.ne_of_lt (Nat.lt_of_lt_of_le E_Rank_INFINITE.lt zz27)
    have z_a27 : h0.size ≤ a27 := zz27
    have N_27 := Fr.app (Fr.nil _) (own_frm N27 (Nat.le_refl _))
    have EX27 : Ext h0 h27 := E27
    refine own_st (T' := T27) (f' := (mkF m 31 #[(.val (.int x0)), (.val (.int x1)), (.val (.int x2)), (.val (.int v)), (.val (.int v)), .unset, .unset, .unset] [(.ref a27)])) st27 ?_
    refine own_st (T' := T27) (f' := (mkF m 33 #[(.val (.int x0)), (.val (.int x1)), (.val (.int x2)), (.val (.int v)), (.val (.int v)), (.val (.ref a27)), .unset, .unset] [])) (fun _ kont => XS.astore X27.here hx rfl (hb hby at_31) rfl rfl (l' := #[(.val (.int x0)), (.val (.int x1)), (.val (.int x2)), (.val (.int v)), (.val (.int v)), (.val (.ref a27)), .unset, .unset]) rfl kont) ?_
    refine own_st (T' := T27) (f' := (mkF m 35 #[(.val (.int x0)), (.val (.int x1)), (.val (.int x2)), (.val (.int v)), (.val (.int v)), (.val (.ref a27)), .unset, .unset] [(.int v)])) (fun _ kont => XS.iload X27.here hx rfl (hb hby at_33) rfl kont) ?_
    obtain ⟨v29, T29, L29, hQ29, X29, st29⟩ := own_callS X27 hx hZ e27 hown (hw _ (List.mem_of_getElem? (i := 1) rfl)) (hw _ (List.mem_of_getElem? (i := 2) rfl)) (by decide) (hw _ (List.mem_of_getElem? (i := 4) rfl)) (hw _ (List.mem_of_getElem? (i := 3) rfl)) (own_of l Z a0 hw v h27 h0v hMv) (g := (mkF m 35 #[(.val (.int x0)), (.val (.int x1)), (.val (.int x2)), (.val (.int v)), (.val (.int v)), (.val (.ref a27)), .unset, .unset] [(.int v)])) rfl (by rw [hml]; rfl) rfl (argsL := [(.int v)]) (rest := []) rfl (lenOf own_pd4 rfl) rfl (hb hby at_35) (Nat.le_of_ble_eq_true rfl) (Nat.le_of_ble_eq_true rfl) (Nat.le_of_ble_eq_true rfl) (Nat.le_of_ble_eq_true rfl)
    obtain ⟨h29, e29⟩ : ∃ z, T29.heap = z := ⟨_, rfl⟩
    rw [e29] at hQ29
    obtain ⟨a29, rfl, zz29, E29, A29, F29, N29⟩ := hQ29
    have ne30 : s_Rank_INFINITE ≠ a29 := Nat.ne_of_lt (Nat.lt_of_lt_of_le (E_Rank_INFINITE.ext EX27).lt zz29)
    have ne31 : a27 ≠ a29 := Nat.ne_of_lt (Nat.lt_of_lt_of_le A27.lt zz29)
    have z_a29 : h0.size ≤ a29 := Nat.le_trans EX27.1 zz29
    have N_29 := Fr.app N_27 (own_frm N29 EX27.1)
    have Y32 := A27.ext E29
    have Y33 := F27.ext E29
    have EX29 : Ext h0 h29 := own_extE EX27 E29
    refine own_st (T' := T29) (f' := (mkF m 38 #[(.val (.int x0)), (.val (.int x1)), (.val (.int x2)), (.val (.int v)), (.val (.int v)), (.val (.ref a27)), .unset, .unset] [(.ref a29)])) st29 ?_
    refine own_st (T' := T29) (f' := (mkF m 40 #[(.val (.int x0)), (.val (.int x1)), (.val (.int x2)), (.val (.int v)), (.val (.int v)), (.val (.ref a27)), (.val (.ref a29)), .unset] [])) (fun _ kont => XS.astore X29.here hx rfl (hb hby at_38) rfl rfl (l' := #[(.val (.int x0)), (.val (.int x1)), (.val (.int x2)), (.val (.int v)), (.val (.int v)), (.val (.ref a27)), (.val (.ref a29)), .unset]) rfl kont) ?_
    refine own_st (T' := T29) (f' := (mkF m 42 #[(.val (.int x0)), (.val (.int x1)), (.val (.int x2)), (.val (.int v)), (.val (.int v)), (.val (.ref a27)), (.val (.ref a29)), .unset] [(.ref a27)])) (fun _ kont => XS.aload X29.here hx rfl (hb hby at_40) rfl rfl kont) ?_
    obtain ⟨v34, T34, L34, hQ34, X34, st34⟩ := own_callV X29 hx hZ e29 hown (hw _ (List.mem_of_getElem? (i := 16) rfl)) (hw _ (List.mem_of_getElem? (i := 17) rfl)) (hw _ (List.mem_of_getElem? (i := 19) rfl)) (hw _ (List.mem_of_getElem? (i := 18) rfl)) (by decide) (b := a27) Y32 (hw _ (List.mem_of_getElem? (i := 20) rfl)) (hw _ (List.mem_of_getElem? (i := 3) rfl)) (own_k4_1 l Z a0 hw a27 v h29 Y33) (g := (mkF m 42 #[(.val (.int x0)), (.val (.int x1)), (.val (.int x2)), (.val (.int v)), (.val (.int v)), (.val (.ref a27)), (.val (.ref a29)), .unset] [(.ref a27)])) rfl (by rw [hml]; rfl) rfl (argsL := []) (rest := []) rfl (lenOf own_pd2 rfl) rfl (hb hby at_42) (Nat.le_of_ble_eq_true rfl) (Nat.le_of_ble_eq_true rfl) (Nat.le_of_ble_eq_true rfl) (Nat.le_of_ble_eq_true rfl)
    obtain ⟨rfl, rfl, e34⟩ := hQ34
    rw [List.append_nil] at X34
    rw [if_neg hMv] at st34
    refine own_st (T' := T34) (f' := (mkF m 45 #[(.val (.int x0)), (.val (.int x1)), (.val (.int x2)), (.val (.int v)), (.val (.int v)), (.val (.ref a27)), (.val (.ref a29)), .unset] [(.int (0 : Int32))])) st34 ?_
    refine own_st (T' := T34) (f' := (mkF m 50 #[(.val (.int x0)), (.val (.int x1)), (.val (.int x2)), (.val (.int v)), (.val (.int v)), (.val (.ref a27)), (.val (.ref a29)), .unset] [])) (fun _ kont => XS.ifYes X34.here hx rfl (pc0 := 45) (pc' := 50) rfl (hb hby at_45) rfl ((if0 _ _).trans (teq (by decide : (0 : Int32) = (0 : Int32))).1) (by decide) (by decide) kont) ?_
    refine own_st (T' := T34) (f' := (mkF m 52 #[(.val (.int x0)), (.val (.int x1)), (.val (.int x2)), (.val (.int v)), (.val (.int v)), (.val (.ref a27)), (.val (.ref a29)), .unset] [(.ref a27)])) (fun _ kont => XS.aload X34.here hx rfl (hb hby at_50) rfl rfl kont) ?_
    obtain ⟨v35, T35, L35, hQ35, X35, st35⟩ := own_callV X34 hx hZ e34 hown (hw _ (List.mem_of_getElem? (i := 21) rfl)) (hw _ (List.mem_of_getElem? (i := 22) rfl)) (hw _ (List.mem_of_getElem? (i := 24) rfl)) (hw _ (List.mem_of_getElem? (i := 23) rfl)) (by decide) (b := a27) Y32 (hw _ (List.mem_of_getElem? (i := 25) rfl)) (hw _ (List.mem_of_getElem? (i := 3) rfl)) (own_k5_2 l Z a0 hw a27 v h29 Y32 Y33 hMv) (g := (mkF m 52 #[(.val (.int x0)), (.val (.int x1)), (.val (.int x2)), (.val (.int v)), (.val (.int v)), (.val (.ref a27)), (.val (.ref a29)), .unset] [(.ref a27)])) rfl (by rw [hml]; rfl) rfl (argsL := []) (rest := []) rfl (lenOf own_pd0 rfl) rfl (hb hby at_52) (Nat.le_of_ble_eq_true rfl) (Nat.le_of_ble_eq_true rfl) (Nat.le_of_ble_eq_true rfl) (Nat.le_of_ble_eq_true rfl)
    obtain ⟨rfl, rfl, e35⟩ := hQ35
    rw [List.append_nil] at X35
    refine own_st (T' := T35) (f' := (mkF m 55 #[(.val (.int x0)), (.val (.int x1)), (.val (.int x2)), (.val (.int v)), (.val (.int v)), (.val (.ref a27)), (.val (.ref a29)), .unset] [(.int v)])) st35 ?_
    refine own_st (T' := T35) (f' := (mkF m 56 #[(.val (.int x0)), (.val (.int x1)), (.val (.int x2)), (.val (.int v)), (.val (.int v)), (.val (.ref a27)), (.val (.ref a29)), .unset] [(.int v), (.int v)])) (fun _ kont => XS.iloadN X35.here hx rfl (hb hby at_55) rfl kont) ?_
    refine own_st (T' := T35) (f' := (mkF m 61 #[(.val (.int x0)), (.val (.int x1)), (.val (.int x2)), (.val (.int v)), (.val (.int v)), (.val (.ref a27)), (.val (.ref a29)), .unset] [])) (fun _ kont => XS.icmpYes X35.here hx rfl (pc0 := 56) (pc' := 61) rfl (hb hby at_56) rfl (teq (rfl : v = v)).1 (by decide) (by decide) kont) ?_
    refine own_st (T' := T35) (f' := (mkF m 62 #[(.val (.int x0)), (.val (.int x1)), (.val (.int x2)), (.val (.int v)), (.val (.int v)), (.val (.ref a27)), (.val (.ref a29)), .unset] [(.int v)])) (fun _ kont => XS.iloadN X35.here hx rfl (hb hby at_61) rfl kont) ?_
    refine own_st (T' := T35) (f' := (mkF m 64 #[(.val (.int x0)), (.val (.int x1)), (.val (.int x2)), (.val (.int v)), (.val (.int v)), (.val (.ref a27)), (.val (.ref a29)), .unset] [(.int v), (.int v)])) (fun _ kont => XS.iload X35.here hx rfl (hb hby at_62) rfl kont) ?_
    refine own_st (T' := T35) (f' := (mkF m 71 #[(.val (.int x0)), (.val (.int x1)), (.val (.int x2)), (.val (.int v)), (.val (.int v)), (.val (.ref a27)), (.val (.ref a29)), .unset] [])) (fun _ kont => XS.icmpYes X35.here hx rfl (pc0 := 64) (pc' := 71) rfl (hb hby at_64) rfl (flt (own_irr _)).2.1 (by decide) (by decide) kont) ?_
    refine own_st (T' := T35) (f' := (mkF m 72 #[(.val (.int x0)), (.val (.int x1)), (.val (.int x2)), (.val (.int v)), (.val (.int v)), (.val (.ref a27)), (.val (.ref a29)), .unset] [(.int v)])) (fun _ kont => XS.iloadN X35.here hx rfl (hb hby at_71) rfl kont) ?_
    refine own_st (T' := T35) (f' := (mkF m 74 #[(.val (.int x0)), (.val (.int x1)), (.val (.int x2)), (.val (.int v)), (.val (.int v)), (.val (.ref a27)), (.val (.ref a29)), .unset] [(.int v), (.int v)])) (fun _ kont => XS.iload X35.here hx rfl (hb hby at_72) rfl kont) ?_
    refine own_st (T' := T35) (f' := (mkF m 77 #[(.val (.int x0)), (.val (.int x1)), (.val (.int x2)), (.val (.int v)), (.val (.int v)), (.val (.ref a27)), (.val (.ref a29)), .unset] [])) (fun _ kont => XS.icmpNo X35.here hx rfl (hb hby at_74) rfl (teq (rfl : v = v)).2 kont) ?_
    refine own_st (T' := T35) (f' := (mkF m 78 #[(.val (.int x0)), (.val (.int x1)), (.val (.int x2)), (.val (.int v)), (.val (.int v)), (.val (.ref a27)), (.val (.ref a29)), .unset] [(.int (0 : Int32))])) (fun _ kont => XS.iconst X35.here hx rfl (hb hby at_77) kont) ?_
    refine own_st (T' := T35) (f' := (mkF m 82 #[(.val (.int x0)), (.val (.int x1)), (.val (.int x2)), (.val (.int v)), (.val (.int v)), (.val (.ref a27)), (.val (.ref a29)), .unset] [(.int (0 : Int32))])) (fun _ kont => XS.goto X35.here hx rfl (pc0 := 78) (pc' := 82) rfl (hb hby at_78) (by decide) (by decide) kont) ?_
    refine own_st (T' := T35) (f' := (mkF m 84 #[(.val (.int x0)), (.val (.int x1)), (.val (.int x2)), (.val (.int v)), (.val (.int v)), (.val (.ref a27)), (.val (.ref a29)), (.val (.int (0 : Int32)))] [])) (fun _ kont => XS.istore X35.here hx rfl (hb hby at_82) rfl (l' := #[(.val (.int x0)), (.val (.int x1)), (.val (.int x2)), (.val (.int v)), (.val (.int v)), (.val (.ref a27)), (.val (.ref a29)), (.val (.int (0 : Int32)))]) rfl kont) ?_
    refine own_st (T' := T35) (f' := (mkF m 86 #[(.val (.int x0)), (.val (.int x1)), (.val (.int x2)), (.val (.int v)), (.val (.int v)), (.val (.ref a27)), (.val (.ref a29)), (.val (.int (0 : Int32)))] [(.ref a27)])) (fun _ kont => XS.aload X35.here hx rfl (hb hby at_84) rfl rfl kont) ?_
    refine own_st (T' := T35) (f' := (mkF m 88 #[(.val (.int x0)), (.val (.int x1)), (.val (.int x2)), (.val (.int v)), (.val (.int v)), (.val (.ref a27)), (.val (.ref a29)), (.val (.int (0 : Int32)))] [(.ref a29), (.ref a27)])) (fun _ kont => XS.aload X35.here hx rfl (hb hby at_86) rfl rfl kont) ?_
    obtain ⟨v36, T36, L36, hQ36, X36, st36⟩ := own_callV X35 hx hZ e35 hown (hw _ (List.mem_of_getElem? (i := 27) rfl)) (hw _ (List.mem_of_getElem? (i := 28) rfl)) (hw _ (List.mem_of_getElem? (i := 30) rfl)) (hw _ (List.mem_of_getElem? (i := 29) rfl)) (by decide) (b := a27) Y32 (hw _ (List.mem_of_getElem? (i := 31) rfl)) (hw _ (List.mem_of_getElem? (i := 3) rfl)) (own_k6_11 l Z a0 hw a27 a29 v h29 Y33 F29) (g := (mkF m 88 #[(.val (.int x0)), (.val (.int x1)), (.val (.int x2)), (.val (.int v)), (.val (.int v)), (.val (.ref a27)), (.val (.ref a29)), (.val (.int (0 : Int32)))] [(.ref a29), (.ref a27)])) rfl (by rw [hml]; rfl) rfl (argsL := [(.ref a29)]) (rest := []) rfl (lenOf own_pd7 rfl) rfl (hb hby at_88) (Nat.le_of_ble_eq_true rfl) (Nat.le_of_ble_eq_true rfl) (Nat.le_of_ble_eq_true rfl) (Nat.le_of_ble_eq_true rfl)
    obtain ⟨rfl, rfl, e36⟩ := hQ36
    rw [List.append_nil] at X36
    refine own_st (T' := T36) (f' := (mkF m 91 #[(.val (.int x0)), (.val (.int x1)), (.val (.int x2)), (.val (.int v)), (.val (.int v)), (.val (.ref a27)), (.val (.ref a29)), (.val (.int (0 : Int32)))] [(.int (0 : Int32))])) st36 ?_
    obtain ⟨v37, T37, L37, hQ37, X37, st37⟩ := own_callS X36 hx hZ e36 hown (hw _ (List.mem_of_getElem? (i := 36) rfl)) (hw _ (List.mem_of_getElem? (i := 37) rfl)) (by decide) (hw _ (List.mem_of_getElem? (i := 39) rfl)) (hw _ (List.mem_of_getElem? (i := 38) rfl)) (own_k8_9 l Z a0 hw  h29 ) (g := (mkF m 91 #[(.val (.int x0)), (.val (.int x1)), (.val (.int x2)), (.val (.int v)), (.val (.int v)), (.val (.ref a27)), (.val (.ref a29)), (.val (.int (0 : Int32)))] [(.int (0 : Int32))])) rfl (by rw [hml]; rfl) rfl (argsL := [(.int (0 : Int32))]) (rest := []) rfl (lenOf own_pd3 rfl) rfl (hb hby at_91) (Nat.le_of_ble_eq_true rfl) (Nat.le_of_ble_eq_true rfl) (Nat.le_of_ble_eq_true rfl) (Nat.le_of_ble_eq_true rfl)
    obtain ⟨rfl, rfl, e37⟩ := hQ37
    rw [List.append_nil] at X37
    refine own_st (T' := T37) (f' := (mkF m 94 #[(.val (.int x0)), (.val (.int x1)), (.val (.int x2)), (.val (.int v)), (.val (.int v)), (.val (.ref a27)), (.val (.ref a29)), (.val (.int (0 : Int32)))] [(.int (0 : Int32))])) st37 ?_
    refine own_st (T' := T37) (f' := (mkF m 96 #[(.val (.int x0)), (.val (.int x1)), (.val (.int x2)), (.val (.int v)), (.val (.int v)), (.val (.ref a27)), (.val (.ref a29)), (.val (.int (0 : Int32)))] [(.int (0 : Int32)), (.int (0 : Int32))])) (fun _ kont => XS.iload X37.here hx rfl (hb hby at_94) rfl kont) ?_
    refine own_st (T' := T37) (f' := (mkF m 101 #[(.val (.int x0)), (.val (.int x1)), (.val (.int x2)), (.val (.int v)), (.val (.int v)), (.val (.ref a27)), (.val (.ref a29)), (.val (.int (0 : Int32)))] [])) (fun _ kont => XS.icmpYes X37.here hx rfl (pc0 := 96) (pc' := 101) rfl (hb hby at_96) rfl (teq (by decide : (0 : Int32) = (0 : Int32))).1 (by decide) (by decide) kont) ?_
    refine own_st (T' := T37) (f' := (mkF m 103 #[(.val (.int x0)), (.val (.int x1)), (.val (.int x2)), (.val (.int v)), (.val (.int v)), (.val (.ref a27)), (.val (.ref a29)), (.val (.int (0 : Int32)))] [(.ref a27)])) (fun _ kont => XS.aload X37.here hx rfl (hb hby at_101) rfl rfl kont) ?_
    refine own_st (T' := T37) (f' := (mkF m 105 #[(.val (.int x0)), (.val (.int x1)), (.val (.int x2)), (.val (.int v)), (.val (.int v)), (.val (.ref a27)), (.val (.ref a29)), (.val (.int (0 : Int32)))] [(.ref a29), (.ref a27)])) (fun _ kont => XS.aload X37.here hx rfl (hb hby at_103) rfl rfl kont) ?_
    obtain ⟨v38, T38, L38, hQ38, X38, st38⟩ := own_callV X37 hx hZ e37 hown (hw _ (List.mem_of_getElem? (i := 40) rfl)) (hw _ (List.mem_of_getElem? (i := 41) rfl)) (hw _ (List.mem_of_getElem? (i := 43) rfl)) (hw _ (List.mem_of_getElem? (i := 42) rfl)) (by decide) (b := a27) Y32 (hw _ (List.mem_of_getElem? (i := 44) rfl)) (hw _ (List.mem_of_getElem? (i := 3) rfl)) (own_k9_13 l Z a0 hw a27 a29 v h29 A29 F29 Y33) (g := (mkF m 105 #[(.val (.int x0)), (.val (.int x1)), (.val (.int x2)), (.val (.int v)), (.val (.int v)), (.val (.ref a27)), (.val (.ref a29)), (.val (.int (0 : Int32)))] [(.ref a29), (.ref a27)])) rfl (by rw [hml]; rfl) rfl (argsL := [(.ref a29)]) (rest := []) rfl (lenOf own_pd8 rfl) rfl (hb hby at_105) (Nat.le_of_ble_eq_true rfl) (Nat.le_of_ble_eq_true rfl) (Nat.le_of_ble_eq_true rfl) (Nat.le_of_ble_eq_true rfl)
    obtain ⟨rfl, rfl, e38⟩ := hQ38
    rw [List.append_nil] at X38
    refine own_st (T' := T38) (f' := (mkF m 108 #[(.val (.int x0)), (.val (.int x1)), (.val (.int x2)), (.val (.int v)), (.val (.int v)), (.val (.ref a27)), (.val (.ref a29)), (.val (.int (0 : Int32)))] [(.int (1 : Int32))])) st38 ?_
    refine own_st (T' := T38) (f' := (mkF m 109 #[(.val (.int x0)), (.val (.int x1)), (.val (.int x2)), (.val (.int v)), (.val (.int v)), (.val (.ref a27)), (.val (.ref a29)), (.val (.int (0 : Int32)))] [(.int v), (.int (1 : Int32))])) (fun _ kont => XS.iloadN X38.here hx rfl (hb hby at_108) rfl kont) ?_
    refine own_st (T' := T38) (f' := (mkF m 111 #[(.val (.int x0)), (.val (.int x1)), (.val (.int x2)), (.val (.int v)), (.val (.int v)), (.val (.ref a27)), (.val (.ref a29)), (.val (.int (0 : Int32)))] [(.int v), (.int v), (.int (1 : Int32))])) (fun _ kont => XS.iload X38.here hx rfl (hb hby at_109) rfl kont) ?_
    refine own_st (T' := T38) (f' := (mkF m 114 #[(.val (.int x0)), (.val (.int x1)), (.val (.int x2)), (.val (.int v)), (.val (.int v)), (.val (.ref a27)), (.val (.ref a29)), (.val (.int (0 : Int32)))] [(.int (1 : Int32))])) (fun _ kont => XS.icmpNo X38.here hx rfl (hb hby at_111) rfl (teq (rfl : v = v)).2 kont) ?_
    refine own_st (T' := T38) (f' := (mkF m 115 #[(.val (.int x0)), (.val (.int x1)), (.val (.int x2)), (.val (.int v)), (.val (.int v)), (.val (.ref a27)), (.val (.ref a29)), (.val (.int (0 : Int32)))] [(.int (1 : Int32)), (.int (1 : Int32))])) (fun _ kont => XS.iconst X38.here hx rfl (hb hby at_114) kont) ?_
    refine own_st (T' := T38) (f' := (mkF m 119 #[(.val (.int x0)), (.val (.int x1)), (.val (.int x2)), (.val (.int v)), (.val (.int v)), (.val (.ref a27)), (.val (.ref a29)), (.val (.int (0 : Int32)))] [(.int (1 : Int32)), (.int (1 : Int32))])) (fun _ kont => XS.goto X38.here hx rfl (pc0 := 115) (pc' := 119) rfl (hb hby at_115) (by decide) (by decide) kont) ?_
    refine own_st (T' := T38) (f' := (mkF m 124 #[(.val (.int x0)), (.val (.int x1)), (.val (.int x2)), (.val (.int v)), (.val (.int v)), (.val (.ref a27)), (.val (.ref a29)), (.val (.int (0 : Int32)))] [])) (fun _ kont => XS.icmpYes X38.here hx rfl (pc0 := 119) (pc' := 124) rfl (hb hby at_119) rfl (teq (by decide : (1 : Int32) = (1 : Int32))).1 (by decide) (by decide) kont) ?_
    refine own_st (T' := T38) (f' := (mkF m 126 #[(.val (.int x0)), (.val (.int x1)), (.val (.int x2)), (.val (.int v)), (.val (.int v)), (.val (.ref a27)), (.val (.ref a29)), (.val (.int (0 : Int32)))] [(.ref a27)])) (fun _ kont => XS.aload X38.here hx rfl (hb hby at_124) rfl rfl kont) ?_
    obtain ⟨T39, X39, e39, st39⟩ := getS2 X38 hx hZ hown (host := "") (Or.inl (hw _ (List.mem_of_getElem? (i := 46) rfl))) Via.refl e38 (S_Rank_INFINITE.ext EX29) (g := (mkF m 126 #[(.val (.int x0)), (.val (.int x1)), (.val (.int x2)), (.val (.int v)), (.val (.int v)), (.val (.ref a27)), (.val (.ref a29)), (.val (.int (0 : Int32)))] [(.ref a27)])) rfl (hb hby at_126)
    refine own_st (T' := T39) (f' := (mkF m 129 #[(.val (.int x0)), (.val (.int x1)), (.val (.int x2)), (.val (.int v)), (.val (.int v)), (.val (.ref a27)), (.val (.ref a29)), (.val (.int (0 : Int32)))] [(.ref s_Rank_INFINITE), (.ref a27)])) st39 ?_
    obtain ⟨v40, T40, L40, hQ40, X40, st40⟩ := own_callV X39 hx hZ e39 hown (hw _ (List.mem_of_getElem? (i := 27) rfl)) (hw _ (List.mem_of_getElem? (i := 28) rfl)) (hw _ (List.mem_of_getElem? (i := 30) rfl)) (hw _ (List.mem_of_getElem? (i := 29) rfl)) (by decide) (b := a27) Y32 (hw _ (List.mem_of_getElem? (i := 31) rfl)) (hw _ (List.mem_of_getElem? (i := 3) rfl)) (own_k6_7 l Z a0 hw a27 s_Rank_INFINITE v h29 Y33 (F_Rank_INFINITE_value.ext EX29)) (g := (mkF m 129 #[(.val (.int x0)), (.val (.int x1)), (.val (.int x2)), (.val (.int v)), (.val (.int v)), (.val (.ref a27)), (.val (.ref a29)), (.val (.int (0 : Int32)))] [(.ref s_Rank_INFINITE), (.ref a27)])) rfl (by rw [hml]; rfl) rfl (argsL := [(.ref s_Rank_INFINITE)]) (rest := []) rfl (lenOf own_pd7 rfl) rfl (hb hby at_129) (Nat.le_of_ble_eq_true rfl) (Nat.le_of_ble_eq_true rfl) (Nat.le_of_ble_eq_true rfl) (Nat.le_of_ble_eq_true rfl)
    obtain ⟨rfl, rfl, e40⟩ := hQ40
    rw [List.append_nil] at X40
    rw [if_pos hLv] at st40
    refine own_st (T' := T40) (f' := (mkF m 132 #[(.val (.int x0)), (.val (.int x1)), (.val (.int x2)), (.val (.int v)), (.val (.int v)), (.val (.ref a27)), (.val (.ref a29)), (.val (.int (0 : Int32)))] [(.int (-1 : Int32))])) st40 ?_
    refine own_st (T' := T40) (f' := (mkF m 137 #[(.val (.int x0)), (.val (.int x1)), (.val (.int x2)), (.val (.int v)), (.val (.int v)), (.val (.ref a27)), (.val (.ref a29)), (.val (.int (0 : Int32)))] [])) (fun _ kont => XS.ifYes X40.here hx rfl (pc0 := 132) (pc' := 137) rfl (hb hby at_132) rfl ((if0 _ _).trans (tlt (by decide : (-1 : Int32) < (0 : Int32))).1) (by decide) (by decide) kont) ?_
    refine own_st (T' := T40) (f' := (mkF m 138 #[(.val (.int x0)), (.val (.int x1)), (.val (.int x2)), (.val (.int v)), (.val (.int v)), (.val (.ref a27)), (.val (.ref a29)), (.val (.int (0 : Int32)))] [(.int (1 : Int32))])) (fun _ kont => XS.iconst X40.here hx rfl (hb hby at_137) kont) ?_
    exact own_retN X40 hx hlk (t := .boolean) hret (by simp) (hb hby at_138) ⟨rfl, N_29⟩ (by decide) (by decide)
set_option maxRecDepth 65536 in
set_option maxHeartbeats 40000000 in
theorem own_comes {Post : Tables → Env → Array Value → State → Outcome → State → Prop} (hpost : ∀ tb e args s v u, (limb_1_1.after args s (.returned v) u = true ∧ limb_1_2.after args s (.returned v) u = true ∧ True) → FrameEnd s (.returned v) u (Jvm.fieldLocs frame_1_writes args s ++ Jvm.arrayLocs frame_1_arrays args s ++ Jvm.staticLocs frame_1_statics s) 16 128 → Post tb e args s (.returned v) u) :
    ArmFor flags0 classFile x code maxLocals ret World_1 tables_1 room_1 Calls_1 rest_1 Pre_1 Post := by
  intro l hfl _ _ p e ha hc hk s m args below hf hA hF happ hP
  obtain ⟨hcalls, hrest, hpre⟩ := hP
  obtain ⟨-, -, -, hnamed, -, -, -, hat⟩ := (Spec.applies_iff hf).mp happ
  obtain ⟨hg, hn⟩ := and_e (Cond.before_iff.mp (show (Jvm.Cond.and given_1 narrow_1).before args s = true from hpre))
  obtain ⟨g0, g0'⟩ := and_e hg
  obtain ⟨g1, g1'⟩ := and_e g0'
  obtain ⟨g2, g2'⟩ := and_e g1'
  obtain ⟨w0, w1, w2, rfl⟩ : ∃ w0 w1 w2 : Value, args = #[w0, w1, w2] := by
    have hs : args.size = 3 := by simpa [Cond.value, given_1] using g0
    obtain ⟨L⟩ := args
    match L, hs with
    | [w0, w1, w2], _ => exact ⟨w0, w1, w2, rfl⟩
  have hw := fun d (hd : d ∈ tables_1) => atoms_spec (ws := Jvm.Cond.code x code maxLocals ret :: tables_1) hat d (List.mem_cons_of_mem _ hd)
  have hfit : Fit s := fun {y c} hc i hi => by
    obtain ⟨ha, rfl⟩ := Array.getElem?_eq_some_iff.mp hc
    have q := List.all_eq_true.mp ((Array.all_eq_true_iff_forall_mem.mp hF) _ (Array.getElem_mem ha)) i (List.mem_range.mpr hi)
    simpa [Array.getElem?_eq_getElem hi] using q
  obtain ⟨i0, ei0⟩ := is_v g1
  obtain rfl : w0 = (.int i0) := Option.some.inj ei0
  obtain ⟨i1, ei1⟩ := is_v g2
  obtain rfl : w1 = (.int i1) := Option.some.inj ei1
  obtain ⟨i2, ei2⟩ := is_v g2'
  obtain rfl : w2 = (.int i2) := Option.some.inj ei2
  obtain ⟨n0, n0'⟩ := and_e hn
  obtain ⟨s_Rank_INFINITE, v_Rank_INFINITE⟩ := exa_v n0
  have E_Rank_INFINITE : Exa s s.heap s_Rank_INFINITE "com/example/unless/unless/reasoning/Rank" := Exa.start v_Rank_INFINITE n0
  have S_Rank_INFINITE : Sta s s.heap "com/example/unless/unless/reasoning/Rank" "INFINITE" "Lcom/example/unless/unless/reasoning/Rank;" (.ref s_Rank_INFINITE) := Sta.start v_Rank_INFINITE (Or.inr ⟨(hw _ (List.mem_of_getElem? (i := 3) rfl)), (hw _ (List.mem_of_getElem? (i := 47) rfl))⟩)
  have F_Rank_INFINITE_value : Fld s s.heap s_Rank_INFINITE "com/example/unless/unless/reasoning/Rank" "value" "I" (.int (2147483647 : Int32)) := Fld.start ((fld_at v_Rank_INFINITE).symm.trans (own_eqI n0'))
  obtain ⟨n, o, h1, h2, h3, _, L, rfl, ⟨rfl, N⟩, hq⟩ := own_rm0 l s _ hw tables_1 i0 i1 i2 s_Rank_INFINITE s.heap S_Rank_INFINITE E_Rank_INFINITE F_Rank_INFINITE_value p e ha hc hk s m _ below hf ((Spec.applies_iff_loose hf).mp happ).1 ⟨rfl, State.Warmed39.refl s, rfl⟩ trivial
  refine ⟨n, _, h1, h2, h3, hpost _ _ _ _ _ _ ⟨Cond.after_iff.mpr rfl, Cond.after_iff.mpr (eq_i res_at (Term.int_eval (1)) rfl), trivial⟩ ⟨hq.1, hq.2.1, (hq.2.2.sift fun y hy => Or.inr (N y hy)).mono (by decide) (by decide)⟩⟩
theorem main_1_1 : Claimed_1_1 := own_comes fun _ _ _ _ _ _ h hF => ⟨h.1, hF⟩
theorem main_1_2 : Claimed_1_2 := own_comes fun _ _ _ _ _ _ h hF => ⟨h.2.1, hF⟩
end Jvm.Pilot.@@N@@
namespace Jvm.Pilot.@@N@@
open Jvm Jvm.ClassFile Sem Op Lib Jvm.Free Jvm.Stand Jvm.Pilot.@@N@@.Jvm.D
/-! MADE BY PROGRAM (witnessworld.py) out of the Statement's table words and the real class files: 14 classes; the members and pool entries that the words name. The judged class is class 1, her method 2. -/
namespace start1
open Jvm.ClassFile
def u (s : String) : CpInfo := .utf8 (stringToUtf16 s)
/-- a pool by its gaps: so many unusable entries, then the entry; so many at the end -/
def gap : Nat → List CpInfo → List CpInfo
  | 0, r => r
  | n + 1, r => .unusable :: gap n r
def poolList (es : List (Nat × CpInfo)) (last : Nat) : List CpInfo := es.foldr (fun e r => gap e.1 (e.2 :: r)) (gap last [])
def pool (es : List (Nat × CpInfo)) (last : Nat) : Array CpInfo := ⟨poolList es last⟩
def fileOf (pool : Array CpInfo) (this : Nat) (attrs : Array Attribute := #[]) (ms : Array MethodInfo := #[]) (fl : Nat := 33) (sup : Nat := 0) (ifs : Array Nat := #[]) (fds : Array FieldInfo := #[]) : ClassFile where
  minorVersion := 0
  majorVersion := 65
  constantPool := pool
  accessFlags := fl
  thisClass := this
  superClass := sup
  interfaces := ifs
  fields := fds
  methods := ms
  attributes := attrs
def plain (name : String) (sup : Option ClassId) : Class where
  name := name
  kind := .ordinary
  loader := none
  accessFlags := 33
  super := sup
  interfaces := #[]
  cf := none
  fields := #[]
  methods := #[]
  instanceTypes := #[]
  staticTypes := #[]
  resolved := #[]
  callSites := []
  init := .initialized
  statics := none
  mirror := none

def pool0 : Array CpInfo := pool [(5, u "<init>"), (0, u "()V"), (1, .class_ 10), (1, u "java/lang/Object")] 113

def k0c0 : Code := { maxStack := 0, maxLocals := 1, code := object_method_1_code, exceptionTable := #[], attributes := #[] }
def k0m0 : Method := { name := "<init>", desc := "()V", sig := { parameters := [], returnType := none }, accessFlags := 1, code := some k0c0 }
/-- java/lang/Object -/
def k0 : Class := { plain "java/lang/Object" none with
  accessFlags := 33
  interfaces := #[]
  cf := some (fileOf pool0 8 #[] #[{ accessFlags := 1, nameIndex := 5, descriptorIndex := 6, attributes := #[] }] 33 0 #[] #[])
  fields := #[]
  methods := #[k0m0]
  instanceTypes := #[]
  staticTypes := #[]
  resolved := Array.replicate 124 none
  statics := none }

def pool1 : Array CpInfo := pool [(2, .class_ 4), (1, u "java/lang/Object"), (0, u "<init>"), (0, u "()V"), (0, .integer 2147483647), (0, .methodref 9 10), (0, .class_ 11), (0, .nameAndType 12 13), (0, u "com/example/unless/unless/reasoning/Rank"), (0, u "of"), (0, u "(I)Lcom/example/unless/unless/reasoning/Rank;"), (0, .methodref 9 15), (0, .nameAndType 16 17), (0, u "isInfinite"), (0, u "()Z"), (0, .methodref 9 19), (0, .nameAndType 20 21), (0, u "value"), (0, u "()I"), (0, .methodref 9 23), (0, .nameAndType 24 25), (0, u "compareTo"), (0, u "(Lcom/example/unless/unless/reasoning/Rank;)I"), (0, .methodref 27 28), (0, .class_ 29), (0, .nameAndType 30 31), (0, u "com/example/unless/unless/reasoning/RankOfPinLaw"), (0, u "sign"), (0, u "(I)I"), (0, .methodref 9 33), (0, .nameAndType 34 35), (0, u "equals"), (0, u "(Ljava/lang/Object;)Z"), (0, .fieldref 9 37), (0, .nameAndType 38 39), (0, u "INFINITE"), (0, u "Lcom/example/unless/unless/reasoning/Rank;"), (3, u "law"), (0, u "(III)Z")] 2

def k1m0 : Method := { name := "<init>", desc := "()V", sig := { parameters := [], returnType := none }, accessFlags := 1, code := none }
def k1c1 : Code := { maxStack := 1, maxLocals := 1, code := method_2_code, exceptionTable := #[], attributes := #[] }
def k1m1 : Method := { name := "sign", desc := "(I)I", sig := { parameters := [.int], returnType := some .int }, accessFlags := 10, code := some k1c1 }
def k1c2 : Code := { maxStack := 3, maxLocals := 8, code := code, exceptionTable := #[], attributes := #[] }
def k1m2 : Method := { name := "law", desc := "(III)Z", sig := { parameters := [.int, .int, .int], returnType := some .boolean }, accessFlags := 9, code := some k1c2 }
/-- com/example/unless/unless/reasoning/RankOfPinLaw -/
def k1 : Class := { plain "com/example/unless/unless/reasoning/RankOfPinLaw" (some 0) with
  accessFlags := 49
  interfaces := #[]
  cf := some (fileOf pool1 27 #[] #[{ accessFlags := 1, nameIndex := 5, descriptorIndex := 6, attributes := #[] }, { accessFlags := 10, nameIndex := 30, descriptorIndex := 31, attributes := #[] }, { accessFlags := 9, nameIndex := 43, descriptorIndex := 44, attributes := #[] }] 49 2 #[] #[])
  fields := #[]
  methods := #[k1m0, k1m1, k1m2]
  instanceTypes := #[]
  staticTypes := #[]
  resolved := Array.replicate 47 none
  statics := none }

def pool2 : Array CpInfo := pool [(1, .class_ 2), (0, u "java/lang/Comparable"), (0, .class_ 4), (0, u "java/lang/Object")] 7

/-- java/lang/Comparable -/
def k2 : Class := { plain "java/lang/Comparable" (some 0) with
  accessFlags := 1537
  interfaces := #[]
  cf := some (fileOf pool2 1 #[] #[] 1537 3 #[] #[])
  fields := #[]
  methods := #[]
  instanceTypes := #[]
  staticTypes := #[]
  resolved := Array.replicate 12 none
  statics := none }

def pool3 : Array CpInfo := pool [(1, .methodref 2 3), (0, .class_ 4), (0, .nameAndType 5 6), (0, u "java/lang/Object"), (0, u "<init>"), (0, u "()V"), (0, .fieldref 8 9), (0, .class_ 10), (0, .nameAndType 11 12), (0, u "com/example/unless/unless/reasoning/Rank"), (0, u "value"), (0, u "I"), (0, .class_ 14), (0, u "java/lang/Integer"), (0, .integer 2147483647), (9, .methodref 8 26), (0, .nameAndType 5 27), (0, u "(I)V"), (0, .methodref 8 29), (0, .nameAndType 30 31), (0, u "isInfinite"), (0, u "()Z"), (5, .methodref 13 38), (0, .nameAndType 39 40), (0, u "compare"), (0, u "(II)I"), (11, u "compareTo"), (0, u "(Lcom/example/unless/unless/reasoning/Rank;)I"), (2, u "INFINITE"), (0, u "Lcom/example/unless/unless/reasoning/Rank;"), (0, .class_ 59), (0, u "java/lang/Comparable"), (2, u "of"), (0, u "(I)Lcom/example/unless/unless/reasoning/Rank;"), (1, u "()I"), (0, u "equals"), (0, u "(Ljava/lang/Object;)Z")] 25

def k3c0 : Code := { maxStack := 2, maxLocals := 2, code := prog_10_method_1_code, exceptionTable := #[], attributes := #[] }
def k3m0 : Method := { name := "<init>", desc := "(I)V", sig := { parameters := [.int], returnType := none }, accessFlags := 2, code := some k3c0 }
def k3c1 : Code := { maxStack := 3, maxLocals := 1, code := prog_10_method_2_code, exceptionTable := #[], attributes := #[] }
def k3m1 : Method := { name := "of", desc := "(I)Lcom/example/unless/unless/reasoning/Rank;", sig := { parameters := [.int], returnType := some (.object "com/example/unless/unless/reasoning/Rank") }, accessFlags := 8, code := some k3c1 }
def k3c2 : Code := { maxStack := 2, maxLocals := 1, code := prog_10_method_3_code, exceptionTable := #[], attributes := #[] }
def k3m2 : Method := { name := "isInfinite", desc := "()Z", sig := { parameters := [], returnType := some .boolean }, accessFlags := 1, code := some k3c2 }
def k3c3 : Code := { maxStack := 3, maxLocals := 1, code := prog_10_method_4_code, exceptionTable := #[], attributes := #[] }
def k3m3 : Method := { name := "value", desc := "()I", sig := { parameters := [], returnType := some .int }, accessFlags := 1, code := some k3c3 }
def k3c4 : Code := { maxStack := 2, maxLocals := 2, code := prog_10_method_5_code, exceptionTable := #[], attributes := #[] }
def k3m4 : Method := { name := "compareTo", desc := "(Lcom/example/unless/unless/reasoning/Rank;)I", sig := { parameters := [(.object "com/example/unless/unless/reasoning/Rank")], returnType := some .int }, accessFlags := 1, code := some k3c4 }
def k3c5 : Code := { maxStack := 2, maxLocals := 3, code := prog_10_method_6_code, exceptionTable := #[], attributes := #[] }
def k3m5 : Method := { name := "equals", desc := "(Ljava/lang/Object;)Z", sig := { parameters := [(.object "java/lang/Object")], returnType := some .boolean }, accessFlags := 1, code := some k3c5 }
/-- com/example/unless/unless/reasoning/Rank -/
def k3 : Class := { plain "com/example/unless/unless/reasoning/Rank" (some 0) with
  accessFlags := 49
  interfaces := #[2]
  cf := some (fileOf pool3 8 #[] #[{ accessFlags := 2, nameIndex := 5, descriptorIndex := 27, attributes := #[] }, { accessFlags := 8, nameIndex := 62, descriptorIndex := 63, attributes := #[] }, { accessFlags := 1, nameIndex := 30, descriptorIndex := 31, attributes := #[] }, { accessFlags := 1, nameIndex := 11, descriptorIndex := 65, attributes := #[] }, { accessFlags := 1, nameIndex := 52, descriptorIndex := 53, attributes := #[] }, { accessFlags := 1, nameIndex := 66, descriptorIndex := 67, attributes := #[] }] 49 2 #[58] #[{ accessFlags := 25, nameIndex := 56, descriptorIndex := 57, attributes := #[] }, { accessFlags := 18, nameIndex := 11, descriptorIndex := 12, attributes := #[] }])
  fields := #[{ name := "INFINITE", type := (.object "com/example/unless/unless/reasoning/Rank"), accessFlags := 25, slot := 0, constantValue := 0 }, { name := "value", type := .int, accessFlags := 18, slot := 0, constantValue := 0 }]
  methods := #[k3m0, k3m1, k3m2, k3m3, k3m4, k3m5]
  instanceTypes := #[.int]
  staticTypes := #[(.object "com/example/unless/unless/reasoning/Rank")]
  resolved := Array.replicate 93 none
  statics := some 0 }

def pool4 : Array CpInfo := pool [(1, .class_ 2), (0, u "java/io/Serializable"), (0, .class_ 4), (0, u "java/lang/Object")] 2

/-- java/io/Serializable -/
def k4 : Class := { plain "java/io/Serializable" (some 0) with
  accessFlags := 1537
  interfaces := #[]
  cf := some (fileOf pool4 1 #[] #[] 1537 3 #[] #[])
  fields := #[]
  methods := #[]
  instanceTypes := #[]
  staticTypes := #[]
  resolved := Array.replicate 7 none
  statics := none }

def pool5 : Array CpInfo := pool [(2, .class_ 4), (1, u "java/lang/Object"), (0, u "<init>"), (0, u "()V"), (1, .class_ 10), (1, u "java/lang/Number"), (2, .class_ 14), (0, u "java/io/Serializable"), (0, u "serialVersionUID"), (0, u "J")] 20

def k5m0 : Method := { name := "<init>", desc := "()V", sig := { parameters := [], returnType := none }, accessFlags := 1, code := none }
/-- java/lang/Number -/
def k5 : Class := { plain "java/lang/Number" (some 0) with
  accessFlags := 1057
  interfaces := #[4]
  cf := some (fileOf pool5 8 #[] #[{ accessFlags := 1, nameIndex := 5, descriptorIndex := 6, attributes := #[] }] 1057 2 #[13] #[{ accessFlags := 26, nameIndex := 15, descriptorIndex := 16, attributes := #[] }])
  fields := #[{ name := "serialVersionUID", type := .long, accessFlags := 26, slot := 0, constantValue := 0 }]
  methods := #[k5m0]
  instanceTypes := #[]
  staticTypes := #[.long]
  resolved := Array.replicate 37 none
  statics := none }

def pool6 : Array CpInfo := pool [(1, .class_ 2), (0, u "java/lang/constant/Constable"), (0, .class_ 4), (0, u "java/lang/Object")] 6

/-- java/lang/constant/Constable -/
def k6 : Class := { plain "java/lang/constant/Constable" (some 0) with
  accessFlags := 1537
  interfaces := #[]
  cf := some (fileOf pool6 1 #[] #[] 1537 3 #[] #[])
  fields := #[]
  methods := #[]
  instanceTypes := #[]
  staticTypes := #[]
  resolved := Array.replicate 11 none
  statics := none }

def pool7 : Array CpInfo := pool [(1, .class_ 2), (0, u "java/lang/constant/ConstantDesc"), (0, .class_ 4), (0, u "java/lang/Object")] 32

/-- java/lang/constant/ConstantDesc -/
def k7 : Class := { plain "java/lang/constant/ConstantDesc" (some 0) with
  accessFlags := 1537
  interfaces := #[]
  cf := some (fileOf pool7 1 #[] #[] 1537 3 #[] #[])
  fields := #[]
  methods := #[]
  instanceTypes := #[]
  staticTypes := #[]
  resolved := Array.replicate 37 none
  statics := none }

def pool8 : Array CpInfo := pool [(1, .class_ 2), (0, u "java/lang/Integer"), (16, u "digits"), (0, u "[C"), (39, u "(II)I"), (24, u "DigitOnes"), (0, u "[B"), (2, u "DigitTens"), (99, .class_ 190), (0, u "java/lang/Integer$IntegerCache"), (3, u "I"), (8, .class_ 204), (0, u "java/lang/Number"), (2, u "value"), (53, u "compare"), (40, u "TYPE"), (0, u "Ljava/lang/Class;"), (0, .class_ 305), (0, u "java/lang/Comparable"), (0, .class_ 307), (0, u "java/lang/constant/Constable"), (0, .class_ 309), (0, u "java/lang/constant/ConstantDesc"), (0, u "MIN_VALUE"), (1, u "MAX_VALUE"), (3, u "SIZE"), (1, u "BYTES"), (1, u "serialVersionUID"), (0, u "J")] 131

def k8c0 : Code := { maxStack := 2, maxLocals := 2, code := jdk_33_method_40_code, exceptionTable := #[], attributes := #[] }
def k8m0 : Method := { name := "compare", desc := "(II)I", sig := { parameters := [.int, .int], returnType := some .int }, accessFlags := 9, code := some k8c0 }
/-- java/lang/Integer -/
def k8 : Class := { plain "java/lang/Integer" (some 5) with
  accessFlags := 49
  interfaces := #[2, 6, 7]
  cf := some (fileOf pool8 1 #[.nestMembers #[189]] #[{ accessFlags := 9, nameIndex := 261, descriptorIndex := 60, attributes := #[] }] 49 203 #[304, 306, 308] #[{ accessFlags := 25, nameIndex := 310, descriptorIndex := 194, attributes := #[] }, { accessFlags := 25, nameIndex := 312, descriptorIndex := 194, attributes := #[] }, { accessFlags := 25, nameIndex := 302, descriptorIndex := 303, attributes := #[] }, { accessFlags := 24, nameIndex := 19, descriptorIndex := 20, attributes := #[] }, { accessFlags := 24, nameIndex := 89, descriptorIndex := 86, attributes := #[] }, { accessFlags := 24, nameIndex := 85, descriptorIndex := 86, attributes := #[] }, { accessFlags := 18, nameIndex := 207, descriptorIndex := 194, attributes := #[] }, { accessFlags := 25, nameIndex := 316, descriptorIndex := 194, attributes := #[] }, { accessFlags := 25, nameIndex := 318, descriptorIndex := 194, attributes := #[] }, { accessFlags := 26, nameIndex := 320, descriptorIndex := 321, attributes := #[] }])
  fields := #[{ name := "MIN_VALUE", type := .int, accessFlags := 25, slot := 0, constantValue := 0 }, { name := "MAX_VALUE", type := .int, accessFlags := 25, slot := 1, constantValue := 0 }, { name := "TYPE", type := (.object "java/lang/Class"), accessFlags := 25, slot := 2, constantValue := 0 }, { name := "digits", type := (.array .char), accessFlags := 24, slot := 3, constantValue := 0 }, { name := "DigitTens", type := (.array .byte), accessFlags := 24, slot := 4, constantValue := 0 }, { name := "DigitOnes", type := (.array .byte), accessFlags := 24, slot := 5, constantValue := 0 }, { name := "value", type := .int, accessFlags := 18, slot := 0, constantValue := 0 }, { name := "SIZE", type := .int, accessFlags := 25, slot := 6, constantValue := 0 }, { name := "BYTES", type := .int, accessFlags := 25, slot := 7, constantValue := 0 }, { name := "serialVersionUID", type := .long, accessFlags := 26, slot := 8, constantValue := 0 }]
  methods := #[k8m0]
  instanceTypes := #[.int]
  staticTypes := #[.int, .int, (.object "java/lang/Class"), (.array .char), (.array .byte), (.array .byte), .int, .int, .long]
  resolved := Array.replicate 453 none
  statics := none }

def pool9 : Array CpInfo := pool [(1, u "java/lang/Cloneable"), (0, .class_ 1), (0, u "java/lang/Object"), (0, .class_ 3)] 3

/-- java/lang/Cloneable -/
def k9 : Class := { plain "java/lang/Cloneable" (some 0) with
  accessFlags := 1537
  interfaces := #[]
  cf := some (fileOf pool9 2 #[] #[] 1537 4 #[] #[])
  fields := #[]
  methods := #[]
  instanceTypes := #[]
  staticTypes := #[]
  resolved := Array.replicate 8 none
  statics := none }

/-- the primitive byte -/
def k10 : Class := { plain "byte" none with kind := .primitive 'B', accessFlags := 0x411 }
/-- [B -/
def k11 : Class := { plain "[B" (some 0) with kind := .array 10 .byte, interfaces := #[9, 4], accessFlags := 1041 }

/-- the primitive int -/
def k12 : Class := { plain "int" none with kind := .primitive 'I', accessFlags := 0x411 }
/-- [I -/
def k13 : Class := { plain "[I" (some 0) with kind := .array 12 .int, interfaces := #[9, 4], accessFlags := 1041 }

def heap : Heap := #[{ cls := 3, slots := #[.ref 1], vm := .statics 3 },
  { cls := 3, slots := #[.int 2147483647], vm := .none }]
def classes : Array Class := #[k0, k1, k2, k3, k4, k5, k6, k7, k8, k9, k10, k11, k12, k13]
def interned : List (Array UInt16 × Addr) := []
def slotsUsed : Nat := 2
def theMethod : MethodId := ⟨1, 2⟩
def args0 : Array Value := #[.int 5, .int 7, .int 0]
def aboutOver (below : List Frame) : State where
  vm := { classes := classes, interned := interned.toArray }
  heap := heap
  slotsUsed := slotsUsed
  threads := #[{ frames := .invoking theMethod args0 :: below }]
def below0 : List Frame := [.native { method := ⟨0, 0⟩, args := #[] }]
def about1 : State := aboutOver below0
def p0 : Program := .bare "" "" ""
def e0 : Env := launch0.env 0 0 0
theorem w_frames : about1.frames = Frame.invoking theMethod args0 :: below0 := rfl
set_option maxRecDepth 65536 in
theorem w_args : argsFit about1.vm theMethod args0 = true := by decide +kernel
set_option maxRecDepth 65536 in
theorem w_heap : heapFits about1 = true := by decide +kernel
set_option maxRecDepth 65536 in
theorem w_runnable : about1.curStatus? = some .runnable := by decide +kernel
set_option maxRecDepth 65536 in
theorem w_alone : about1.alone = true := by decide +kernel
set_option maxRecDepth 65536 in
theorem w_named : about1.methodNamed? x = some theMethod := by decide +kernel
set_option maxRecDepth 65536 in
theorem w_hears : about1.hears theMethod below0 = true := by decide +kernel
set_option maxRecDepth 65536 in
theorem w_ripe : about1.ripe theMethod args0 below0 = true := by decide +kernel
theorem w_running : about1.status = .running := rfl
set_option maxRecDepth 65536 in
theorem w_room : about1.hasRoom e0.platform room_1 = true :=
  launch0.hasRoom_least _ room_1 (by decide +kernel) (by decide +kernel) (by decide +kernel) (by decide +kernel) (by decide +kernel) (by decide +kernel)
theorem allAtoms_all (ts : List Jvm.Cond) (a : Array Jvm.Value) (st : Jvm.State) : (allAtoms ts).before a st = ts.all (fun c => c.before a st) := by
  induction ts with
  | nil => rfl
  | cons c t ih =>
    show (Jvm.Cond.and c (allAtoms t)).before a st = _
    rw [Jvm.Cond.before_and, ih, List.all_cons]
def words1 : List Jvm.Cond := Jvm.Cond.code x code maxLocals ret :: tables_1
/-- a 'code' word, met by the world's own term for the bytes: nothing is compared byte by byte -/
theorem code_word {y : MethodName} {bytes : ByteArray} {mx : Nat} {rt : Option FieldType} {a : Array Value} {s : State} {m : MethodId} {meth : Method} {c : Code} (h1 : s.methodNamed? y = some m) (h2 : s.vm.method? m = some meth) (h3 : meth.code = some c) (h4 : c.code = bytes)
    (h5 : (c.maxLocals == mx && c.exceptionTable.isEmpty && decide (c.maxStack ≤ mostOperands) && decide (meth.sig.returnType = rt) && !meth.locks && decide (parseMethodDescriptor y.desc = some meth.sig)) = true) : (Jvm.Cond.code y bytes mx rt).before a s = true := by
  simp only [Bool.and_eq_true, beq_iff_eq, Bool.not_eq_true', decide_eq_true_eq] at h5
  obtain ⟨⟨⟨⟨⟨g1, g2⟩, g3⟩, g4⟩, g5⟩, g6⟩ := h5
  simp [Cond.before, Cond.holds, Cond.value, h1, h2, h3, h4, g1, g2, g3, g4, g5, g6]
def isCode : Jvm.Cond → Bool
  | .code _ _ _ _ => true
  | _ => false
theorem all_split {L : List Jvm.Cond} {P : Jvm.Cond → Bool} (h1 : L.all (fun c => isCode c || P c) = true) (h2 : ∀ c ∈ L.filter isCode, P c = true) : L.all P = true := by
  refine List.all_eq_true.mpr fun c hc => ?_
  have h := List.all_eq_true.mp h1 c hc
  rcases Bool.eq_false_or_eq_true (isCode c) with hi | hi
  · exact h2 c (List.mem_filter.mpr ⟨hc, hi⟩)
  · simpa [hi] using h
set_option maxRecDepth 65536 in
theorem w_c0 : (Jvm.Cond.code x code maxLocals ret).before args0 about1 = true := code_word (m := ⟨1, 2⟩) (meth := k1m2) (c := k1c2) (by decide +kernel) rfl rfl rfl (by decide +kernel)
set_option maxRecDepth 65536 in
theorem w_c1 : (Jvm.Cond.code ({ cls := "com/example/unless/unless/reasoning/Rank", name := "of", desc := "(I)Lcom/example/unless/unless/reasoning/Rank;" } : Jvm.MethodName) prog_10_method_2_code (1 : Nat) (Option.some (Jvm.ClassFile.FieldType.object "com/example/unless/unless/reasoning/Rank"))).before args0 about1 = true := code_word (m := ⟨3, 1⟩) (meth := k3m1) (c := k3c1) (by decide +kernel) rfl rfl rfl (by decide +kernel)
set_option maxRecDepth 65536 in
theorem w_c2 : (Jvm.Cond.code ({ cls := "com/example/unless/unless/reasoning/Rank", name := "<init>", desc := "(I)V" } : Jvm.MethodName) prog_10_method_1_code (2 : Nat) (Option.none : Option Jvm.ClassFile.FieldType)).before args0 about1 = true := code_word (m := ⟨3, 0⟩) (meth := k3m0) (c := k3c0) (by decide +kernel) rfl rfl rfl (by decide +kernel)
set_option maxRecDepth 65536 in
theorem w_c3 : (Jvm.Cond.code ({ cls := "java/lang/Object", name := "<init>", desc := "()V" } : Jvm.MethodName) object_method_1_code (1 : Nat) (Option.none : Option Jvm.ClassFile.FieldType)).before args0 about1 = true := code_word (m := ⟨0, 0⟩) (meth := k0m0) (c := k0c0) (by decide +kernel) rfl rfl rfl (by decide +kernel)
set_option maxRecDepth 65536 in
theorem w_c4 : (Jvm.Cond.code ({ cls := "com/example/unless/unless/reasoning/Rank", name := "isInfinite", desc := "()Z" } : Jvm.MethodName) prog_10_method_3_code (1 : Nat) (Option.some Jvm.ClassFile.FieldType.boolean)).before args0 about1 = true := code_word (m := ⟨3, 2⟩) (meth := k3m2) (c := k3c2) (by decide +kernel) rfl rfl rfl (by decide +kernel)
set_option maxRecDepth 65536 in
theorem w_c5 : (Jvm.Cond.code ({ cls := "com/example/unless/unless/reasoning/Rank", name := "value", desc := "()I" } : Jvm.MethodName) prog_10_method_4_code (1 : Nat) (Option.some Jvm.ClassFile.FieldType.int)).before args0 about1 = true := code_word (m := ⟨3, 3⟩) (meth := k3m3) (c := k3c3) (by decide +kernel) rfl rfl rfl (by decide +kernel)
set_option maxRecDepth 65536 in
theorem w_c6 : (Jvm.Cond.code ({ cls := "com/example/unless/unless/reasoning/Rank", name := "compareTo", desc := "(Lcom/example/unless/unless/reasoning/Rank;)I" } : Jvm.MethodName) prog_10_method_5_code (2 : Nat) (Option.some Jvm.ClassFile.FieldType.int)).before args0 about1 = true := code_word (m := ⟨3, 4⟩) (meth := k3m4) (c := k3c4) (by decide +kernel) rfl rfl rfl (by decide +kernel)
set_option maxRecDepth 65536 in
theorem w_c7 : (Jvm.Cond.code ({ cls := "java/lang/Integer", name := "compare", desc := "(II)I" } : Jvm.MethodName) jdk_33_method_40_code (2 : Nat) (Option.some Jvm.ClassFile.FieldType.int)).before args0 about1 = true := code_word (m := ⟨8, 0⟩) (meth := k8m0) (c := k8c0) (by decide +kernel) rfl rfl rfl (by decide +kernel)
set_option maxRecDepth 65536 in
theorem w_c8 : (Jvm.Cond.code ({ cls := "com/example/unless/unless/reasoning/RankOfPinLaw", name := "sign", desc := "(I)I" } : Jvm.MethodName) method_2_code (1 : Nat) (Option.some Jvm.ClassFile.FieldType.int)).before args0 about1 = true := code_word (m := ⟨1, 1⟩) (meth := k1m1) (c := k1c1) (by decide +kernel) rfl rfl rfl (by decide +kernel)
set_option maxRecDepth 65536 in
theorem w_c9 : (Jvm.Cond.code ({ cls := "com/example/unless/unless/reasoning/Rank", name := "equals", desc := "(Ljava/lang/Object;)Z" } : Jvm.MethodName) prog_10_method_6_code (3 : Nat) (Option.some Jvm.ClassFile.FieldType.boolean)).before args0 about1 = true := code_word (m := ⟨3, 5⟩) (meth := k3m5) (c := k3c5) (by decide +kernel) rfl rfl rfl (by decide +kernel)
def codes1 : List Jvm.Cond := [Jvm.Cond.code x code maxLocals ret, Jvm.Cond.code ({ cls := "com/example/unless/unless/reasoning/Rank", name := "of", desc := "(I)Lcom/example/unless/unless/reasoning/Rank;" } : Jvm.MethodName) prog_10_method_2_code (1 : Nat) (Option.some (Jvm.ClassFile.FieldType.object "com/example/unless/unless/reasoning/Rank")), Jvm.Cond.code ({ cls := "com/example/unless/unless/reasoning/Rank", name := "<init>", desc := "(I)V" } : Jvm.MethodName) prog_10_method_1_code (2 : Nat) (Option.none : Option Jvm.ClassFile.FieldType), Jvm.Cond.code ({ cls := "java/lang/Object", name := "<init>", desc := "()V" } : Jvm.MethodName) object_method_1_code (1 : Nat) (Option.none : Option Jvm.ClassFile.FieldType), Jvm.Cond.code ({ cls := "com/example/unless/unless/reasoning/Rank", name := "isInfinite", desc := "()Z" } : Jvm.MethodName) prog_10_method_3_code (1 : Nat) (Option.some Jvm.ClassFile.FieldType.boolean), Jvm.Cond.code ({ cls := "com/example/unless/unless/reasoning/Rank", name := "value", desc := "()I" } : Jvm.MethodName) prog_10_method_4_code (1 : Nat) (Option.some Jvm.ClassFile.FieldType.int), Jvm.Cond.code ({ cls := "com/example/unless/unless/reasoning/Rank", name := "compareTo", desc := "(Lcom/example/unless/unless/reasoning/Rank;)I" } : Jvm.MethodName) prog_10_method_5_code (2 : Nat) (Option.some Jvm.ClassFile.FieldType.int), Jvm.Cond.code ({ cls := "java/lang/Integer", name := "compare", desc := "(II)I" } : Jvm.MethodName) jdk_33_method_40_code (2 : Nat) (Option.some Jvm.ClassFile.FieldType.int), Jvm.Cond.code ({ cls := "com/example/unless/unless/reasoning/RankOfPinLaw", name := "sign", desc := "(I)I" } : Jvm.MethodName) method_2_code (1 : Nat) (Option.some Jvm.ClassFile.FieldType.int), Jvm.Cond.code ({ cls := "com/example/unless/unless/reasoning/Rank", name := "equals", desc := "(Ljava/lang/Object;)Z" } : Jvm.MethodName) prog_10_method_6_code (3 : Nat) (Option.some Jvm.ClassFile.FieldType.boolean)]
set_option maxRecDepth 65536 in
theorem codes_eq : words1.filter isCode = codes1 := rfl
theorem w_codes : ∀ c ∈ words1.filter isCode, c.before args0 about1 = true := by
  rw [codes_eq]
  intro c hc
  simp only [codes1, List.mem_cons, List.not_mem_nil, or_false] at hc
  rcases hc with rfl | rfl | rfl | rfl | rfl | rfl | rfl | rfl | rfl | rfl
  · exact w_c0
  · exact w_c1
  · exact w_c2
  · exact w_c3
  · exact w_c4
  · exact w_c5
  · exact w_c6
  · exact w_c7
  · exact w_c8
  · exact w_c9
set_option maxRecDepth 65536 in
theorem w_t1 : (words1.take 24).all (fun c => isCode c || c.before args0 about1) = true := by decide +kernel
set_option maxRecDepth 65536 in
theorem w_t2 : ((words1.drop 24).take 24).all (fun c => isCode c || c.before args0 about1) = true := by decide +kernel
set_option maxRecDepth 65536 in
theorem w_t3 : ((words1.drop 24).drop 24).all (fun c => isCode c || c.before args0 about1) = true := by decide +kernel
theorem w_tables : (allAtoms (Jvm.Cond.code x code maxLocals ret :: tables_1)).before args0 about1 = true := by
  rw [allAtoms_all]
  show words1.all (fun c => c.before args0 about1) = true
  refine all_split ?_ w_codes
  rw [← List.take_append_drop 24 words1, List.all_append, w_t1, ← List.take_append_drop 24 (words1.drop 24), List.all_append, w_t2, w_t3]
  rfl
set_option maxRecDepth 65536 in
theorem w_case : (Jvm.Cond.and given_1 narrow_1).before args0 about1 = true := by decide +kernel
theorem w_applies : (headSpec (Jvm.Cond.code x code maxLocals ret :: tables_1) room_1).applies x e0.platform about1 = true :=
  (Spec.applies_iff w_frames).mpr ⟨w_running, w_runnable, w_alone, w_named, w_hears, w_ripe, w_room, w_tables⟩
theorem atStart : AtStart classFile x code maxLocals ret World_1 tables_1 room_1 Calls_1 rest_1 Pre_1 launch0 p0 e0 about1 theMethod args0 below0 :=
  ⟨lists_1, trivial, launch0.admits_env _ _ _, launch0.least_env, fairChoices_fair.cas, fairChoices_fair.clock, w_frames, w_args, w_heap, w_applies, trivial, trivial, w_case⟩
end start1
theorem witness_1 : WitnessClaimed_1 := ⟨start1.p0, start1.e0, start1.about1, start1.theMethod, start1.args0, start1.below0, start1.atStart⟩
end Jvm.Pilot.@@N@@
