import JvmDerived
import JvmDerived.Pilot.@@N@@Statement
import JvmDerived.Pilot.@@N@@Code
set_option linter.unusedVariables false
set_option linter.unusedSimpArgs false
namespace Jvm.Pilot.@@N@@
open Jvm Jvm.ClassFile Sem Op Lib Jvm.Free Jvm.Stand Jvm.LawKit Jvm.RoadKit Bundle Jvm.Pilot.@@N@@.Jvm.D
/-! own: a walk carried forward as a goal, with forks -/
def own_G (p : Program) (e : Env) (below : List Frame) (s : State) (Q : Option Value → Heap → List Loc → Prop) (C S : Nat) (T : State) (f : JFrame) : Prop :=
  ∃ s₂ o, Steps p.tables e below (T.setTop f) s₂ ∧ s₂.status = .running ∧ Ended s₂ below o ∧ ∃ v L, o = .returned v ∧ Q v s₂.heap L ∧ FrameEnd s o s₂ L C S
abbrev own_C0 (l : Launch) (y : MethodName) (bytes : ByteArray) (maxL : Nat) (ret : Option FieldType) (ws : List Jvm.Cond) (rm : Room) (Z : State) (h : Heap) (as' : Array Value) (Q : Option Value → Heap → List Loc → Prop) (C S : Nat) : Prop :=
  MetFree l y (head1 (Jvm.Cond.code y bytes maxL ret :: ws) rm) (fun a U => a = as' ∧ Z.Warmed39 U.vm ∧ U.heap = h) (fun _ _ _ _ _ => True) (fun _ U o U' => ∃ v L, o = .returned v ∧ Q v U'.heap L ∧ FrameEnd U o U' L C S)
abbrev own_C (l : Launch) (y : MethodName) (bytes : ByteArray) (maxL : Nat) (ret : Option FieldType) (rm : Room) (Z : State) (h : Heap) (as' : Array Value) (Q : Option Value → Heap → List Loc → Prop) : Prop :=
  own_C0 l y bytes maxL ret [] rm Z h as' Q rm.cells rm.slots
/-- what a body says that writes nothing: its value -/
def own_P (r : Option Value) (h0 : Heap) (v : Option Value) (h : Heap) (L : List Loc) : Prop := v = r ∧ L = [] ∧ h = h0
abbrev own_R (f c n k : Nat) : Room := { frames := f, cells := c, slots := n, locals := k }
theorem own_body {l : Launch} {y : MethodName} {bytes : ByteArray} {maxL : Nat} {ret : Option FieldType} {ws : List Jvm.Cond} {rm : Room} {Z : State} {h0 : Heap} {as' : Array Value} {Q : Option Value → Heap → List Loc → Prop} {C S : Nat} (hpn : plainFor y = true)
    (body : ∀ p e s m below meth c s₁, p.tables.exec = Jvm.exec → c.code = bytes → c.maxLocals = maxL → Z.Warmed39 s.vm → s.vm.findClass y.cls = some m.cls → meth.name = y.name → meth.sig.returnType = ret → meth.locks = false →
      Stand p l e rm s m as' below meth c s₁ [] 0 0 → s₁.heap = h0 → own_G p e below s Q C S s₁ (entryFrame m as' maxL)) : own_C0 l y bytes maxL ret ws rm Z h0 as' Q C S := by
  refine MetFree.of_bodySF hpn hisR ?_
  intro p e s m args below meth c s₁ Bd hml hP hK
  obtain ⟨rfl, hZ, hh⟩ := hP
  exact body p e s m below meth c s₁ Bd.exec Bd.bytes hml hZ (findClass_of_methodNamed Bd.named) (name_of_methodNamed Bd.named Bd.method).1 Bd.returns Bd.notSynchronized (Stand.of_body Bd) (by rw [← hh, Bd.state]; rfl)
section Own
variable {p : Program} {l : Launch} {e : Env} {R : Room} {s : State} {m : MethodId} {args : Array Value} {below : List Frame} {meth : Method} {c : Code} {T T' : State} {locs : List Loc} {cells slots : Nat} {Q : Option Value → Heap → List Loc → Prop} {C S : Nat} {f f' : JFrame} {Z : State} {a0 : Array Value} {h : Heap}
theorem own_st (k : ∀ target, Steps p.tables e below (T'.setTop f') target → Steps p.tables e below (T.setTop f) target) (g : own_G p e below s Q C S T' f') : own_G p e below s Q C S T f := by
  obtain ⟨t, o, h1, h2⟩ := g
  exact ⟨t, o, k t h1, h2⟩
theorem own_cast (q : f = f') (g : own_G p e below s Q C S T f') : own_G p e below s Q C S T f := q ▸ g
theorem own_end {v : Option Value} (X : Stand p l e R s m args below meth c T locs cells slots) (hlk : meth.locks = false) (hv : meth.sig.returnType = none → v = none)
    (k : ∀ fs, (∀ (f : JFrame) (acts : List Action), f.method = m → f.locked = none → f.entered = [] → (doReturn e (T.setTop f) acts v).1 = T.setFrames fs) → Steps p.tables e below (T.setTop f) (T.setFrames fs))
    (hq : Q v T.heap locs) (hC : cells ≤ C) (hS : slots ≤ S) : own_G p e below s Q C S T f := by
  obtain ⟨fs, hr, hrun, hended, hW, hsame⟩ := X.leave (v := v) hv hlk
  exact ⟨_, _, k fs hr, hrun, hended, v, locs, rfl, hq, ⟨_, rfl⟩, hW, hsame.mono hC hS⟩
theorem own_retI (X : Stand p l e R s m args below meth c T locs cells slots) (hx : p.tables.exec = Jvm.exec) (hlk : meth.locks = false) (hret : meth.sig.returnType = some .int) {pc : Nat} {Ls : Array Slot} {z : Int32} {rest : List Value} (hd : decode c.code pc = .ok (.ireturn, 1))
    (hq : Q (some (.int z)) T.heap locs) (hC : cells ≤ C) (hS : slots ≤ S) : own_G p e below s Q C S T (mkF m pc Ls (.int z :: rest)) :=
  own_end X hlk (fun h => by rw [hret] at h; cases h) (fun fs hr => retOut X hx hret rfl (Or.inl ⟨rfl, Or.inl rfl, z, rfl⟩) hd hr) hq hC hS
theorem own_retN (X : Stand p l e R s m args below meth c T locs cells slots) (hx : p.tables.exec = Jvm.exec) (hlk : meth.locks = false) {t : FieldType} (hret : meth.sig.returnType = some t) (ht : t = .boolean ∨ t = .byte ∨ t = .char ∨ t = .short) {pc : Nat} {Ls : Array Slot} {z : Int32} {rest : List Value} (hd : decode c.code pc = .ok (.ireturn, 1))
    (hq : Q (some (.int (nar t z))) T.heap locs) (hC : cells ≤ C) (hS : slots ≤ S) : own_G p e below s Q C S T (mkF m pc Ls (.int z :: rest)) :=
  own_end X hlk (fun h => by rw [hret] at h; cases h) (fun fs hr => retN X hx hret ht hd hr) hq hC hS
theorem own_retJ (X : Stand p l e R s m args below meth c T locs cells slots) (hx : p.tables.exec = Jvm.exec) (hlk : meth.locks = false) (hret : meth.sig.returnType = some .long) {pc : Nat} {Ls : Array Slot} {z : Int64} {rest : List Value} (hd : decode c.code pc = .ok (.lreturn, 1))
    (hq : Q (some (.long z)) T.heap locs) (hC : cells ≤ C) (hS : slots ≤ S) : own_G p e below s Q C S T (mkF m pc Ls (.long z :: rest)) :=
  own_end X hlk (fun h => by rw [hret] at h; cases h) (fun fs hr => retOut X hx hret rfl (Or.inr (Or.inl ⟨rfl, rfl, z, rfl⟩)) hd hr) hq hC hS
theorem own_retA (X : Stand p l e R s m args below meth c T locs cells slots) (hx : p.tables.exec = Jvm.exec) (hlk : meth.locks = false) {t : FieldType} (hret : meth.sig.returnType = some t) (ht : t.isReference = true) {w : Value} (hw : w.isRef = true) {pc : Nat} {Ls : Array Slot} {rest : List Value} (hd : decode c.code pc = .ok (.areturn, 1))
    (hq : Q (some w) T.heap locs) (hC : cells ≤ C) (hS : slots ≤ S) : own_G p e below s Q C S T (mkF m pc Ls (w :: rest)) :=
  own_end X hlk (fun h => by rw [hret] at h; cases h) (fun fs hr => retOut X hx hret (by rcases ref_cases hw with rfl | ⟨a, rfl⟩ <;> cases t <;> first | rfl | (cases ht)) (Or.inr (Or.inr (Or.inr (Or.inr ⟨rfl, ht, hw⟩)))) hd hr) hq hC hS
theorem own_retV (X : Stand p l e R s m args below meth c T locs cells slots) (hx : p.tables.exec = Jvm.exec) (hlk : meth.locks = false) (hret : meth.sig.returnType = none) {pc : Nat} {Ls : Array Slot} (hd : decode c.code pc = .ok (.return_, 1))
    (hq : Q none T.heap locs) (hC : cells ≤ C) (hS : slots ≤ S) : own_G p e below s Q C S T (mkF m pc Ls []) :=
  own_end X hlk (fun _ => rfl) (fun fs hr => X.returnOut hx hret hd hr) hq hC hS
/-! calls by a contract: one row each -/
theorem own_callS (X : Stand p l e R s m args below meth c T locs cells slots) (hx : p.tables.exec = Jvm.exec) (hZ : Z.Warmed39 s.vm) (eT : T.heap = h) {own : String} {index : Nat} {y : MethodName} (hown : s.vm.findClass own = some m.cls) (w1 : (Cond.methodLink own index y).before a0 Z = true) (w2 : (Cond.static y).before a0 Z = true)
    (hy : y.cls ≠ "java/lang/invoke/MethodHandle" ∧ y.cls ≠ "java/lang/invoke/VarHandle") {bytes : ByteArray} {maxL : Nat} {ret : Option FieldType} {rm : Room} {as' : Array Value} (wc : (Cond.code y bytes maxL ret).before a0 Z = true) (wz : (Cond.initialized y.cls).before a0 Z = true) (hM : own_C l y bytes maxL ret rm Z h as' Q)
    {g : JFrame} (hg : g.method = m) (hsize : g.locals.size = c.maxLocals) (hmr : g.monitorRoom = 0) {argsL rest : List Value} (has : argsL.toArray = as') (hlen : ∀ sig, parseMethodDescriptor y.desc = some sig → argsL.length = sig.parameters.length) (hstack : g.stack = argsL.reverse ++ rest) (hd : decode c.code g.pc = .ok (.invokestatic index, 3))
    (hf : rm.frames + 1 ≤ R.frames) (hl : (rest.map fun v => v.category).sum + (maxL + 11) + rm.locals ≤ R.locals) (hc : cells + rm.cells ≤ R.cells) (hs : slots + rm.slots ≤ R.slots) :
    ∃ v T' L, Q v T'.heap L ∧ Stand p l e R s m args below meth c T' (locs ++ L) (cells + rm.cells) (slots + rm.slots) ∧ ∀ target, Steps p.tables e below (T'.setTop { g with pc := g.pc + 3, stack := v.toList ++ rest }) target → Steps p.tables e below (T.setTop g) target := by
  obtain ⟨v, _, ⟨T1, L1, k1, n1⟩, -, X1, ⟨Lc, hQ, l1, y1, z1⟩, st⟩ := Jvm.LawKit.callS X hx (y := y) hown (mvT hZ w1) (mvT hZ w2) (mvT hZ wz) (mvT hZ wc) hy (backOf (W := (rest.map fun v => v.category).sum) hM hZ wc wz hf hl) hg hsize (argsL := argsL) (rest := rest) hlen hstack (by rw [hmr]; omega) hd (fun _ _ => ⟨has, eT, hc, hs⟩)
  dsimp only [Pt.U, Pt.locs, Pt.cells, Pt.slots] at X1 l1 y1 z1 st hQ
  subst l1 y1 z1
  exact ⟨v, T1, Lc, hQ, X1, st⟩
theorem own_callN (X : Stand p l e R s m args below meth c T locs cells slots) (hx : p.tables.exec = Jvm.exec) (hZ : Z.Warmed39 s.vm) (eT : T.heap = h) {own : String} {index : Nat} {y : MethodName} (hown : s.vm.findClass own = some m.cls) (hy1 : y.name = "<init>") (w1 : (Cond.methodLink own index y).before a0 Z = true) (w2 : (Cond.instanceMethod y).before a0 Z = true)
    (hy : y.cls ≠ "java/lang/invoke/MethodHandle" ∧ y.cls ≠ "java/lang/invoke/VarHandle") {a : Addr} {bytes : ByteArray} {maxL : Nat} {rm : Room} {as' : Array Value} (wc : (Cond.code y bytes maxL none).before a0 Z = true) (wz : (Cond.initialized y.cls).before a0 Z = true) (hM : own_C l y bytes maxL none rm Z h as' Q)
    {g : JFrame} (hg : g.method = m) (hsize : g.locals.size = c.maxLocals) (hmr : g.monitorRoom = 0) {argsL rest : List Value} (has : (Value.ref a :: argsL).toArray = as') (hlen : ∀ sig, parseMethodDescriptor y.desc = some sig → argsL.length = sig.parameters.length) (hstack : g.stack = argsL.reverse ++ .ref a :: rest) (hd : decode c.code g.pc = .ok (.invokespecial index, 3))
    (hf : rm.frames + 1 ≤ R.frames) (hl : (rest.map fun v => v.category).sum + (maxL + 11) + rm.locals ≤ R.locals) (hc : cells + rm.cells ≤ R.cells) (hs : slots + rm.slots ≤ R.slots) :
    ∃ v T' L, Q v T'.heap L ∧ Stand p l e R s m args below meth c T' (locs ++ L) (cells + rm.cells) (slots + rm.slots) ∧ ∀ target, Steps p.tables e below (T'.setTop { g with pc := g.pc + 3, stack := v.toList ++ rest }) target → Steps p.tables e below (T.setTop g) target := by
  obtain ⟨v, _, ⟨T1, L1, k1, n1⟩, -, X1, ⟨Lc, hQ, l1, y1, z1⟩, st⟩ := X.specialBack hx (y := y) hy1 hown (mvT hZ w1) (mvT hZ w2) (mvT hZ wc) hy (backOf (W := (rest.map fun v => v.category).sum) hM hZ wc wz hf hl) hg hsize (Steps.refl _) (a := a) (argsL := argsL) (rest := rest) hlen hstack (by rw [hmr]; omega) hd (fun _ _ => ⟨has, eT, hc, hs⟩)
  dsimp only [Pt.U, Pt.locs, Pt.cells, Pt.slots] at X1 l1 y1 z1 st hQ
  subst l1 y1 z1
  exact ⟨v, T1, Lc, hQ, X1, fun _ k => st.trans k⟩
theorem own_callV' (X : Stand p l e R s m args below meth c T locs cells slots) (hx : p.tables.exec = Jvm.exec) (hZ : Z.Warmed39 s.vm) (eT : T.heap = h) {own K : String} {index : Nat} {y z : MethodName} (hown : s.vm.findClass own = some m.cls) (w1 : (Cond.methodLink own index y).before a0 Z = true) (w2 : (Cond.declares y).before a0 Z = true) (hnf : NotFace s y) (w3 : (Cond.selects K y z).before a0 Z = true) (w4 : (Cond.instanceMethod z).before a0 Z = true)
    (hy : y.cls ≠ "java/lang/invoke/MethodHandle" ∧ y.cls ≠ "java/lang/invoke/VarHandle") {b : Addr} (E : Exa Z h b K) {bytes : ByteArray} {maxL : Nat} {ret : Option FieldType} {rm : Room} {as' : Array Value} (wc : (Cond.code z bytes maxL ret).before a0 Z = true) (wz : (Cond.initialized z.cls).before a0 Z = true) (hM : own_C l z bytes maxL ret rm Z h as' Q)
    {g : JFrame} (hg : g.method = m) (hsize : g.locals.size = c.maxLocals) (hmr : g.monitorRoom = 0) {argsL rest : List Value} (has : (Value.ref b :: argsL).toArray = as') (hlen : ∀ sig, parseMethodDescriptor y.desc = some sig → argsL.length = sig.parameters.length) (hstack : g.stack = argsL.reverse ++ .ref b :: rest) (hd : decode c.code g.pc = .ok (.invokevirtual index, 3))
    (hf : rm.frames + 1 ≤ R.frames) (hl : (rest.map fun v => v.category).sum + (maxL + 11) + rm.locals ≤ R.locals) (hc : cells + rm.cells ≤ R.cells) (hs : slots + rm.slots ≤ R.slots) :
    ∃ v T' L, Q v T'.heap L ∧ Stand p l e R s m args below meth c T' (locs ++ L) (cells + rm.cells) (slots + rm.slots) ∧ ∀ target, Steps p.tables e below (T'.setTop { g with pc := g.pc + 3, stack := v.toList ++ rest }) target → Steps p.tables e below (T.setTop g) target := by
  obtain ⟨cq, kq, q1, q2, q3⟩ := isOf hZ eT E
  obtain ⟨v, _, ⟨T1, L1, k1, n1⟩, -, X1, ⟨Lc, hQ, l1, y1, z1⟩, st⟩ := X.virtualBack hx (y := y) (z := z) hown (mvT hZ w1) (mvT hZ w2) hnf (mvT hZ w3) (mvT hZ w4) hy (backOf (W := (rest.map fun v => v.category).sum) hM hZ wc wz hf hl) q1 q3 hg hsize (Steps.refl _) (argsL := argsL) (rest := rest) hlen hstack (by rw [hmr]; omega) hd (fun _ _ => ⟨has, eT, hc, hs⟩)
  dsimp only [Pt.U, Pt.locs, Pt.cells, Pt.slots] at X1 l1 y1 z1 st hQ
  subst l1 y1 z1
  exact ⟨v, T1, Lc, hQ, X1, fun _ k => st.trans k⟩
theorem own_callV (X : Stand p l e R s m args below meth c T locs cells slots) (hx : p.tables.exec = Jvm.exec) (hZ : Z.Warmed39 s.vm) (eT : T.heap = h) {own K : String} {index : Nat} {y : MethodName} (hown : s.vm.findClass own = some m.cls) (w1 : (Cond.methodLink own index y).before a0 Z = true) (w2 : (Cond.declares y).before a0 Z = true) (w3 : (Cond.selects K y y).before a0 Z = true) (w4 : (Cond.instanceMethod y).before a0 Z = true)
    (hy : y.cls ≠ "java/lang/invoke/MethodHandle" ∧ y.cls ≠ "java/lang/invoke/VarHandle") {b : Addr} (E : Exa Z h b K) {bytes : ByteArray} {maxL : Nat} {ret : Option FieldType} {rm : Room} {as' : Array Value} (wc : (Cond.code y bytes maxL ret).before a0 Z = true) (wz : (Cond.initialized y.cls).before a0 Z = true) (hM : own_C l y bytes maxL ret rm Z h as' Q)
    {g : JFrame} (hg : g.method = m) (hsize : g.locals.size = c.maxLocals) (hmr : g.monitorRoom = 0) {argsL rest : List Value} (has : (Value.ref b :: argsL).toArray = as') (hlen : ∀ sig, parseMethodDescriptor y.desc = some sig → argsL.length = sig.parameters.length) (hstack : g.stack = argsL.reverse ++ .ref b :: rest) (hd : decode c.code g.pc = .ok (.invokevirtual index, 3))
    (hf : rm.frames + 1 ≤ R.frames) (hl : (rest.map fun v => v.category).sum + (maxL + 11) + rm.locals ≤ R.locals) (hc : cells + rm.cells ≤ R.cells) (hs : slots + rm.slots ≤ R.slots) :
    ∃ v T' L, Q v T'.heap L ∧ Stand p l e R s m args below meth c T' (locs ++ L) (cells + rm.cells) (slots + rm.slots) ∧ ∀ target, Steps p.tables e below (T'.setTop { g with pc := g.pc + 3, stack := v.toList ++ rest }) target → Steps p.tables e below (T.setTop g) target :=
  own_callV' X hx hZ eT hown w1 w2 (notFace_of_selects (args := #[]) (mvT hZ w3)) w3 w4 hy E wc wz hM hg hsize hmr has hlen hstack hd hf hl hc hs
theorem own_callU (X : Stand p l e R s m args below meth c T locs cells slots) (hx : p.tables.exec = Jvm.exec) (hZ : Z.Warmed39 s.vm) (eT : T.heap = h) {own K owner : String} {index : Nat} {y z : MethodName} (hown : s.vm.findClass own = some m.cls) (w1 : (Cond.methodLink own index y).before a0 Z = true) (w0 : (Cond.sameMethod y.cls owner y.name y.desc).before a0 Z = true) (w2 : (Cond.declares ⟨owner, y.name, y.desc⟩).before a0 Z = true) (w3 : (Cond.selects K y z).before a0 Z = true) (w4 : (Cond.instanceMethod z).before a0 Z = true)
    (hy : owner ≠ "java/lang/invoke/MethodHandle" ∧ owner ≠ "java/lang/invoke/VarHandle") {b : Addr} (E : Exa Z h b K) {bytes : ByteArray} {maxL : Nat} {ret : Option FieldType} {rm : Room} {as' : Array Value} (wc : (Cond.code z bytes maxL ret).before a0 Z = true) (wz : (Cond.initialized z.cls).before a0 Z = true) (hM : own_C l z bytes maxL ret rm Z h as' Q)
    {g : JFrame} (hg : g.method = m) (hsize : g.locals.size = c.maxLocals) (hmr : g.monitorRoom = 0) {argsL rest : List Value} (has : (Value.ref b :: argsL).toArray = as') (hlen : ∀ sig, parseMethodDescriptor y.desc = some sig → argsL.length = sig.parameters.length) (hstack : g.stack = argsL.reverse ++ .ref b :: rest) (hd : decode c.code g.pc = .ok (.invokevirtual index, 3))
    (hf : rm.frames + 1 ≤ R.frames) (hl : (rest.map fun v => v.category).sum + (maxL + 11) + rm.locals ≤ R.locals) (hc : cells + rm.cells ≤ R.cells) (hs : slots + rm.slots ≤ R.slots) :
    ∃ v T' L, Q v T'.heap L ∧ Stand p l e R s m args below meth c T' (locs ++ L) (cells + rm.cells) (slots + rm.slots) ∧ ∀ target, Steps p.tables e below (T'.setTop { g with pc := g.pc + 3, stack := v.toList ++ rest }) target → Steps p.tables e below (T.setTop g) target := by
  obtain ⟨cq, kq, q1, q2, q3⟩ := isOf hZ eT E
  obtain ⟨v, _, ⟨T1, L1, k1, n1⟩, -, X1, ⟨Lc, hQ, l1, y1, z1⟩, st⟩ := X.virtualBackUp hx (x := y) (y := z) (owner := owner) hown (mvT hZ w1) (mvT hZ w0) (mvT hZ w2) hy (mvT hZ w3) (mvT hZ w4) (backOf (W := (rest.map fun v => v.category).sum) hM hZ wc wz hf hl) q1 q3 hg hsize (Steps.refl _) (argsL := argsL) (rest := rest) hlen hstack (by rw [hmr]; omega) hd (fun _ _ => ⟨has, eT, hc, hs⟩)
  dsimp only [Pt.U, Pt.locs, Pt.cells, Pt.slots] at X1 l1 y1 z1 st hQ
  subst l1 y1 z1
  exact ⟨v, T1, Lc, hQ, X1, fun _ k => st.trans k⟩
theorem own_selP {y : MethodName} {n : Nat} (wi : (Cond.instantiable y.cls n).before a0 Z = true) (w2 : (Cond.instanceMethod y).before a0 Z = true) (w3 : (Cond.privateMethod y).before a0 Z = true) (hy : y.cls ≠ "java/lang/invoke/MethodHandle" ∧ y.cls ≠ "java/lang/invoke/VarHandle") : (Cond.selects y.cls y y).before a0 Z = true := by
  obtain ⟨c, k, h1, h2, -, h4, -⟩ := Cond.instantiable_spec wi
  exact selects_self_of_private h1 h2 (by cases hq : k.isInterface <;> simp_all) (Cond.privateMethod_at w3) w2 hy
theorem own_callP (X : Stand p l e R s m args below meth c T locs cells slots) (hx : p.tables.exec = Jvm.exec) (hZ : Z.Warmed39 s.vm) (eT : T.heap = h) {own K : String} {index n : Nat} {y : MethodName} (hown : s.vm.findClass own = some m.cls) (w1 : (Cond.methodLink own index y).before a0 Z = true) (w2 : (Cond.instanceMethod y).before a0 Z = true) (wi : (Cond.instantiable y.cls n).before a0 Z = true) (w3 : (Cond.privateMethod y).before a0 Z = true)
    (hy : y.cls ≠ "java/lang/invoke/MethodHandle" ∧ y.cls ≠ "java/lang/invoke/VarHandle") {a : Addr} (E : Exa Z h a K) {bytes : ByteArray} {maxL : Nat} {ret : Option FieldType} {rm : Room} {as' : Array Value} (wc : (Cond.code y bytes maxL ret).before a0 Z = true) (wz : (Cond.initialized y.cls).before a0 Z = true) (hM : own_C l y bytes maxL ret rm Z h as' Q)
    {g : JFrame} (hg : g.method = m) (hsize : g.locals.size = c.maxLocals) (hmr : g.monitorRoom = 0) {argsL rest : List Value} (has : (Value.ref a :: argsL).toArray = as') (hlen : ∀ sig, parseMethodDescriptor y.desc = some sig → argsL.length = sig.parameters.length) (hstack : g.stack = argsL.reverse ++ .ref a :: rest) (hd : decode c.code g.pc = .ok (.invokevirtual index, 3))
    (hf : rm.frames + 1 ≤ R.frames) (hl : (rest.map fun v => v.category).sum + (maxL + 11) + rm.locals ≤ R.locals) (hc : cells + rm.cells ≤ R.cells) (hs : slots + rm.slots ≤ R.slots) :
    ∃ v T' L, Q v T'.heap L ∧ Stand p l e R s m args below meth c T' (locs ++ L) (cells + rm.cells) (slots + rm.slots) ∧ ∀ target, Steps p.tables e below (T'.setTop { g with pc := g.pc + 3, stack := v.toList ++ rest }) target → Steps p.tables e below (T.setTop g) target := by
  obtain ⟨cq, q1, q2⟩ := E.cell
  have ws := own_selP wi w2 w3 hy
  obtain ⟨v, _, ⟨T1, L1, k1, n1⟩, -, X1, ⟨Lc, hQ, l1, y1, z1⟩, st⟩ := X.privateBack hx (y := y) hown (mvT hZ w1) (mvT hZ w2) (mvT hZ ws) (Cond.privateMethod_at (mvP hZ w3 (args := #[]))) (mvT hZ wc) hy (backOf (W := (rest.map fun v => v.category).sum) hM hZ wc wz hf hl) hg hsize (Steps.refl _) (a := a) (by rw [eT]; exact q1) q2 (argsL := argsL) (rest := rest) hlen hstack (by rw [hmr]; omega) hd (fun _ _ => ⟨has, eT, hc, hs⟩)
  dsimp only [Pt.U, Pt.locs, Pt.cells, Pt.slots] at X1 l1 y1 z1 st hQ
  subst l1 y1 z1
  exact ⟨v, T1, Lc, hQ, X1, fun _ k => st.trans k⟩
theorem own_backF {y : MethodName} {bytes : ByteArray} {maxL : Nat} {ret : Option FieldType} {rm : Room} {W : Nat} {as' : Array Value} (hM : own_C l y bytes maxL ret rm Z h as' Q) (hZ : Z.Warmed39 s.vm) (wc : (Cond.code y bytes maxL ret).before a0 Z = true) (wz : (Cond.initialized y.cls).before a0 Z = true) (hf : rm.frames + 1 ≤ R.frames) (hl : W + (maxL + 11) + rm.locals ≤ R.locals) :
    Back l R p e below s args y 5 W (fun A a => a = as' ∧ A.U.heap = h ∧ A.cells + rm.cells ≤ R.cells ∧ A.slots + rm.slots ≤ R.slots) (fun A _ v B => ∃ L, Q v B.U.heap L ∧ B.locs = A.locs ++ L ∧ B.cells = A.cells + rm.cells ∧ B.slots = A.slots + rm.slots) := backOf (W := W) hM hZ wc wz hf hl
theorem own_callF (X : Stand p l e R s m args below meth c T locs cells slots) (hx : p.tables.exec = Jvm.exec) (hZ : Z.Warmed39 s.vm) (eT : T.heap = h) {own K : String} {index count : Nat} {xi y : MethodName} (hown : s.vm.findClass own = some m.cls) (w1 : (Cond.methodLink own index xi).before a0 Z = true) (w2 : (Cond.declares xi).before a0 Z = true) (w3 : (Cond.interfaceMethod xi.cls xi.cls xi.name xi.desc).before a0 Z = true) (w4 : (Cond.selects K xi y).before a0 Z = true) (w5 : (Cond.instanceMethod y).before a0 Z = true) (w6 : (Cond.publicMethod y).before a0 Z = true) (w7 : (Cond.unhidden K xi.name xi.desc).before a0 Z = true) (w8 : (Cond.castable K xi.cls).before a0 Z = true) (hfa : ((Cond.interfaceMethod xi.cls xi.cls xi.name xi.desc).onTables && (Cond.interfaceMethod xi.cls xi.cls xi.name xi.desc).keepsFace) = true)
    (hy : xi.cls ≠ "java/lang/invoke/MethodHandle" ∧ xi.cls ≠ "java/lang/invoke/VarHandle") {b : Addr} (E : Exa Z h b K) {bytes : ByteArray} {maxL : Nat} {ret : Option FieldType} {rm : Room} {as' : Array Value} (wc : (Cond.code y bytes maxL ret).before a0 Z = true) (wz : (Cond.initialized y.cls).before a0 Z = true) (hM : own_C l y bytes maxL ret rm Z h as' Q)
    {g : JFrame} (hg : g.method = m) (hsize : g.locals.size = c.maxLocals) (hmr : g.monitorRoom = 0) {argsL rest : List Value} (has : (Value.ref b :: argsL).toArray = as') (hlen : ∀ sig, parseMethodDescriptor xi.desc = some sig → argsL.length = sig.parameters.length) (hstack : g.stack = argsL.reverse ++ .ref b :: rest) (hd : decode c.code g.pc = .ok (.invokeinterface index count, 5))
    (hf : rm.frames + 1 ≤ R.frames) (hl : (rest.map fun v => v.category).sum + (maxL + 11) + rm.locals ≤ R.locals) (hc : cells + rm.cells ≤ R.cells) (hs : slots + rm.slots ≤ R.slots) :
    ∃ v T' L, Q v T'.heap L ∧ Stand p l e R s m args below meth c T' (locs ++ L) (cells + rm.cells) (slots + rm.slots) ∧ ∀ target, Steps p.tables e below (T'.setTop { g with pc := g.pc + 5, stack := v.toList ++ rest }) target → Steps p.tables e below (T.setTop g) target := by
  obtain ⟨cq, kq, q1, q2, q3⟩ := isOf hZ eT E
  obtain ⟨v, _, ⟨T1, L1, k1, n1⟩, -, X1, ⟨Lc, hQ, l1, y1, z1⟩, st⟩ := X.interfaceBack hx (xi := xi) (y := y) hown (mvT hZ w1) (mvT hZ w2) (mvT hZ w3 hfa) (mvT hZ w4) (mvT hZ w5) (mvT hZ w6) (mvT hZ w7) (mvT hZ w8) hy (own_backF (W := (rest.map fun v => v.category).sum) hM hZ wc wz hf hl) q1 q2 q3 hg hsize (Steps.refl _) (argsL := argsL) (rest := rest) hlen hstack (by rw [hmr]; omega) hd (fun _ _ => ⟨has, eT, hc, hs⟩)
  dsimp only [Pt.U, Pt.locs, Pt.cells, Pt.slots] at X1 l1 y1 z1 st hQ
  subst l1 y1 z1
  exact ⟨v, T1, Lc, hQ, X1, fun _ k => st.trans k⟩
/-! from the case's words -/
theorem own_eqR {args : Array Value} {first s : State} {o : Option Outcome} {idx : List Nat} {a b : Term} {x : Addr} (h : (Cond.eq a b).value args first o s idx = some true) (hb : b.eval args first o idx s = some (.ref x)) : a.eval args first o idx s = some (.ref x) := by
  obtain ⟨u, w, h1, h2, h3, h4⟩ := cmp_v (Or.inl h)
  cases hb.symm.trans h2
  rcases ref_cases (show u.isRef = true by cases u <;> simp [Kin, Value.isRef] at h4 ⊢) with rfl | ⟨z, rfl⟩
  · exact absurd (gotT (eq_R h1 h2 rfl rfl) h) nofun
  · rw [h1, gotT (eq_R h1 h2 rfl rfl) h]
theorem own_eqI {args : Array Value} {first s : State} {o : Option Outcome} {idx : List Nat} {a : Term} {n : Int32} (h : (Cond.eq a (.int n)).value args first o s idx = some true) : a.eval args first o idx s = some (.int n) := by
  obtain ⟨u, w, h1, h2, h3, h4⟩ := cmp_v (Or.inl h)
  cases (show some (Value.int n) = some w from h2)
  obtain ⟨z, rfl⟩ : ∃ z, u = .int z := h4
  have q : (Cond.eq a (.int n)).value args first o s idx = some (decide (z = n)) := by simp [Cond.value, h1, Term.eval]
  rw [h1, gotT q h]
theorem own_irr (x : Int32) : ¬ x < x := by rw [Int32.lt_iff_toInt_lt]; omega
theorem own_irrL (x : Int64) : ¬ x < x := by rw [Int64.lt_iff_toInt_lt]; omega
end Own
end Jvm.Pilot.@@N@@
namespace Jvm.Pilot.@@N@@
open Jvm Jvm.ClassFile Sem Op Lib Jvm.Free Jvm.Stand Jvm.LawKit Jvm.RoadKit Bundle Jvm.Pilot.@@N@@.Jvm.D
theorem own_cases5 (i : Int32) (h : 0 ≤ i.toInt ∧ i.toInt < 5) : i = (0 : Int32) ∨ i = (1 : Int32) ∨ i = (2 : Int32) ∨ i = (3 : Int32) ∨ i = (4 : Int32) := by
  rcases (by omega : i.toInt = 0 ∨ i.toInt = 1 ∨ i.toInt = 2 ∨ i.toInt = 3 ∨ i.toInt = 4) with h | h | h | h | h
  all_goals (have q := fun (z : Int32) (e : i.toInt = z.toInt) => Int32.toInt_inj.mp e)
  · exact Or.inl (q _ (h.trans (by decide)))
  · exact Or.inr (Or.inl (q _ (h.trans (by decide))))
  · exact Or.inr (Or.inr (Or.inl (q _ (h.trans (by decide)))))
  · exact Or.inr (Or.inr (Or.inr (Or.inl (q _ (h.trans (by decide))))))
  · exact Or.inr (Or.inr (Or.inr (Or.inr ((q _ (h.trans (by decide)))))))
theorem own_mod5 (x : Int32) : 0 ≤ ((x &&& (2147483647 : Int32)) % (5 : Int32)).toInt ∧ ((x &&& (2147483647 : Int32)) % (5 : Int32)).toInt < 5 := by
  have e1 := c_mask x (2147483647 : Int32) 31 (by decide) (by decide)
  have e2 := (c_irem (x &&& (2147483647 : Int32)) (5 : Int32) 5 (by decide)).1 (by omega)
  omega
theorem own_extE {h0 h h' : Heap} (E : Ext h0 h) (E' : Ext h h') : Ext h0 h' := ⟨Nat.le_trans E.1 E'.1, fun a c q => E'.2 a c (E.2 a c q)⟩
theorem own_extW {h0 h h' : Heap} {a : Addr} {sl : Nat} {v : Value} (E : Ext h0 h) (W : Wr h h' a sl v) (q : h0.size ≤ a) : Ext h0 h' := by
  refine ⟨Nat.le_trans E.1 (Keep.of_wr W).1, fun b c hb => ?_⟩
  obtain ⟨c', h1, -, -, -, h5, -, -⟩ := wr_at W (E.2 b c hb)
  have ne : b ≠ a := fun e => absurd (Array.getElem?_eq_some_iff.mp hb).1 (Nat.not_lt.mpr (e ▸ q))
  rw [← h5 ne]; exact h1
theorem own_pn0 : plainFor (⟨"com/example/usher/usher/LaunchModeCarriesNewTaskPinLaw", "law", "(II)Z"⟩ : MethodName) = true := plainFor_of_name (by first | (simp [plainName, overriddenIn]; done) | decide +kernel)
theorem own_d1_0 : decode prog_40_method_10_code 0 = .ok (.aload_n 0, 1) := by decide +kernel
theorem own_d1_1 : decode prog_40_method_10_code 1 = .ok (.invokevirtual 80, 3) := by decide +kernel
theorem own_d2_0 : decode jdk_37_method_2_code 0 = .ok (.aload_n 0, 1) := by decide +kernel
theorem own_d2_1 : decode jdk_37_method_2_code 1 = .ok (.getfield 7, 3) := by decide +kernel
theorem own_d2_4 : decode jdk_37_method_2_code 4 = .ok (.ireturn, 1) := by decide +kernel
theorem own_pn2 : plainFor (⟨"java/lang/Enum", "ordinal", "()I"⟩ : MethodName) = true := plainFor_of_name (by first | (simp [plainName, overriddenIn]; done) | decide +kernel)
set_option maxRecDepth 65536 in
set_option maxHeartbeats 40000000 in
theorem own_k2_2 (l : Launch) (Z : State) (a0 : Array Value) (hw : ∀ d ∈ tables_1, d.before a0 Z = true) (p0 : Addr) (h0 : Heap) (H0 : Fld Z h0 p0 "java/lang/Enum" "ordinal" "I" (.int (0 : Int32))) :
    own_C l (⟨"java/lang/Enum", "ordinal", "()I"⟩ : MethodName) jdk_37_method_2_code 1 (some .int) (own_R 0 0 0 0) Z h0 #[(.ref p0)] (own_P (some (.int (0 : Int32))) h0) := by
  refine own_body own_pn2 ?_
  intro p e s m below meth c s₁ hx hby hml hZ hown hnm hret hlk X0 e0
  refine own_cast (f' := (mkF m 0 #[(.val (.ref p0))] [])) (by first | (simp [entryFrame, mkF, argsToLocals, Value.category, maxLocals]; done) | rfl) ?_
  refine own_st (T' := s₁) (f' := (mkF m 1 #[(.val (.ref p0))] [(.ref p0)])) (fun _ kont => XS.aloadN X0.here hx rfl (hb hby own_d2_0) rfl rfl kont) ?_
  obtain ⟨T1, X1, e1, st1⟩ := getF X0 hx hZ hown (host := "") (Or.inl (hw _ (List.mem_of_getElem? (i := 27) rfl))) Via.refl e0 H0 (g := (mkF m 1 #[(.val (.ref p0))] [(.ref p0)])) rfl rfl (hb hby own_d2_1)
  refine own_st (T' := T1) (f' := (mkF m 4 #[(.val (.ref p0))] [(.int (0 : Int32))])) st1 ?_
  exact own_retI X1 hx hlk hret (hb hby own_d2_4) ⟨rfl, rfl, e1⟩ (by decide) (by decide)
theorem own_pd0 : parseMethodDescriptor "()I" = some ⟨[], some .int⟩ := by decide +kernel
theorem own_d1_4 : decode prog_40_method_10_code 4 = .ok (.tableswitch 36 0 4 #[46, 46, 50, 62, 62], 36) := by decide +kernel
theorem own_d1_50 : decode prog_40_method_10_code 50 = .ok (.iconst 0, 1) := by decide +kernel
theorem own_d1_51 : decode prog_40_method_10_code 51 = .ok (.goto 16, 3) := by decide +kernel
theorem own_d1_67 : decode prog_40_method_10_code 67 = .ok (.ireturn, 1) := by decide +kernel
theorem own_pn1 : plainFor (⟨"com/example/usher/usher/LaunchMode", "carriesNewTask", "(Z)Z"⟩ : MethodName) = true := plainFor_of_name (by first | (simp [plainName, overriddenIn]; done) | decide +kernel)
set_option maxRecDepth 65536 in
set_option maxHeartbeats 40000000 in
theorem own_k1_1 (l : Launch) (Z : State) (a0 : Array Value) (hw : ∀ d ∈ tables_1, d.before a0 Z = true) (p0 : Addr) (h0 : Heap) (H0 : Exa Z h0 p0 "com/example/usher/usher/LaunchMode") (H1 : Fld Z h0 p0 "java/lang/Enum" "ordinal" "I" (.int (0 : Int32))) :
    own_C l (⟨"com/example/usher/usher/LaunchMode", "carriesNewTask", "(Z)Z"⟩ : MethodName) prog_40_method_10_code 2 (some .boolean) (own_R 1 0 0 12) Z h0 #[(.ref p0), (.int (0 : Int32))] (own_P (some (.int (0 : Int32))) h0) := by
  refine own_body own_pn1 ?_
  intro p e s m below meth c s₁ hx hby hml hZ hown hnm hret hlk X0 e0
  refine own_cast (f' := (mkF m 0 #[(.val (.ref p0)), (.val (.int (0 : Int32)))] [])) (by first | (simp [entryFrame, mkF, argsToLocals, Value.category, maxLocals]; done) | rfl) ?_
  refine own_st (T' := s₁) (f' := (mkF m 1 #[(.val (.ref p0)), (.val (.int (0 : Int32)))] [(.ref p0)])) (fun _ kont => XS.aloadN X0.here hx rfl (hb hby own_d1_0) rfl rfl kont) ?_
  obtain ⟨v1, T1, L1, hQ1, X1, st1⟩ := own_callU X0 hx hZ e0 hown (hw _ (List.mem_of_getElem? (i := 20) rfl)) (hw _ (List.mem_of_getElem? (i := 21) rfl)) (hw _ (List.mem_of_getElem? (i := 22) rfl)) (hw _ (List.mem_of_getElem? (i := 24) rfl)) (hw _ (List.mem_of_getElem? (i := 23) rfl)) (by decide) (b := p0) H0 (hw _ (List.mem_of_getElem? (i := 26) rfl)) (hw _ (List.mem_of_getElem? (i := 25) rfl)) (own_k2_2 l Z a0 hw p0 h0 H1) (g := (mkF m 1 #[(.val (.ref p0)), (.val (.int (0 : Int32)))] [(.ref p0)])) rfl (by rw [hml]; rfl) rfl (argsL := []) (rest := []) rfl (lenOf own_pd0 rfl) rfl (hb hby own_d1_1) (Nat.le_of_ble_eq_true rfl) (Nat.le_of_ble_eq_true rfl) (Nat.le_of_ble_eq_true rfl) (Nat.le_of_ble_eq_true rfl)
  obtain ⟨rfl, rfl, e1⟩ := hQ1
  rw [List.append_nil] at X1
  refine own_st (T' := T1) (f' := (mkF m 4 #[(.val (.ref p0)), (.val (.int (0 : Int32)))] [(.int (0 : Int32))])) st1 ?_
  refine own_st (T' := T1) (f' := (mkF m 50 #[(.val (.ref p0)), (.val (.int (0 : Int32)))] [])) (fun _ kont => XS.tswIn X1.here hx rfl (pc0 := 4) (pc' := 50) rfl (hb hby own_d1_4) rfl (o := 46) (by decide) (by decide) (by decide) (by decide) kont) ?_
  refine own_st (T' := T1) (f' := (mkF m 51 #[(.val (.ref p0)), (.val (.int (0 : Int32)))] [(.int (0 : Int32))])) (fun _ kont => XS.iconst X1.here hx rfl (hb hby own_d1_50) kont) ?_
  refine own_st (T' := T1) (f' := (mkF m 67 #[(.val (.ref p0)), (.val (.int (0 : Int32)))] [(.int (0 : Int32))])) (fun _ kont => XS.goto X1.here hx rfl (pc0 := 51) (pc' := 67) rfl (hb hby own_d1_51) (by decide) (by decide) kont) ?_
  exact own_retN X1 hx hlk (t := .boolean) hret (by simp) (hb hby own_d1_67) ⟨rfl, rfl, e1⟩ (by decide) (by decide)
theorem own_pd2 : parseMethodDescriptor "(Z)Z" = some ⟨[.boolean], some .boolean⟩ := by decide +kernel
theorem own_d3_0 : decode prog_40_method_5_code 0 = .ok (.aload_n 0, 1) := by decide +kernel
theorem own_d3_1 : decode prog_40_method_5_code 1 = .ok (.getfield 42, 3) := by decide +kernel
theorem own_d3_4 : decode prog_40_method_5_code 4 = .ok (.ireturn, 1) := by decide +kernel
theorem own_pn3 : plainFor (⟨"com/example/usher/usher/LaunchMode", "keepsOneInstance", "()Z"⟩ : MethodName) = true := plainFor_of_name (by first | (simp [plainName, overriddenIn]; done) | decide +kernel)
set_option maxRecDepth 65536 in
set_option maxHeartbeats 40000000 in
theorem own_k3_3 (l : Launch) (Z : State) (a0 : Array Value) (hw : ∀ d ∈ tables_1, d.before a0 Z = true) (p0 : Addr) (h0 : Heap) (H0 : Fld Z h0 p0 "com/example/usher/usher/LaunchMode" "keepsOneInstance" "Z" (.int (0 : Int32))) :
    own_C l (⟨"com/example/usher/usher/LaunchMode", "keepsOneInstance", "()Z"⟩ : MethodName) prog_40_method_5_code 1 (some .boolean) (own_R 0 0 0 0) Z h0 #[(.ref p0)] (own_P (some (.int (0 : Int32))) h0) := by
  refine own_body own_pn3 ?_
  intro p e s m below meth c s₁ hx hby hml hZ hown hnm hret hlk X0 e0
  refine own_cast (f' := (mkF m 0 #[(.val (.ref p0))] [])) (by first | (simp [entryFrame, mkF, argsToLocals, Value.category, maxLocals]; done) | rfl) ?_
  refine own_st (T' := s₁) (f' := (mkF m 1 #[(.val (.ref p0))] [(.ref p0)])) (fun _ kont => XS.aloadN X0.here hx rfl (hb hby own_d3_0) rfl rfl kont) ?_
  obtain ⟨T1, X1, e1, st1⟩ := getF X0 hx hZ hown (host := "") (Or.inl (hw _ (List.mem_of_getElem? (i := 34) rfl))) Via.refl e0 H0 (g := (mkF m 1 #[(.val (.ref p0))] [(.ref p0)])) rfl rfl (hb hby own_d3_1)
  refine own_st (T' := T1) (f' := (mkF m 4 #[(.val (.ref p0))] [(.int (0 : Int32))])) st1 ?_
  exact own_retN X1 hx hlk (t := .boolean) hret (by simp) (hb hby own_d3_4) ⟨rfl, rfl, e1⟩ (by decide) (by decide)
theorem own_pd1 : parseMethodDescriptor "()Z" = some ⟨[], some .boolean⟩ := by decide +kernel
set_option maxRecDepth 65536 in
set_option maxHeartbeats 40000000 in
theorem own_k1_4 (l : Launch) (Z : State) (a0 : Array Value) (hw : ∀ d ∈ tables_1, d.before a0 Z = true) (p0 : Addr) (h0 : Heap) (H0 : Exa Z h0 p0 "com/example/usher/usher/LaunchMode") (H1 : Fld Z h0 p0 "java/lang/Enum" "ordinal" "I" (.int (0 : Int32))) :
    own_C l (⟨"com/example/usher/usher/LaunchMode", "carriesNewTask", "(Z)Z"⟩ : MethodName) prog_40_method_10_code 2 (some .boolean) (own_R 1 0 0 12) Z h0 #[(.ref p0), (.int (1 : Int32))] (own_P (some (.int (0 : Int32))) h0) := by
  refine own_body own_pn1 ?_
  intro p e s m below meth c s₁ hx hby hml hZ hown hnm hret hlk X0 e0
  refine own_cast (f' := (mkF m 0 #[(.val (.ref p0)), (.val (.int (1 : Int32)))] [])) (by first | (simp [entryFrame, mkF, argsToLocals, Value.category, maxLocals]; done) | rfl) ?_
  refine own_st (T' := s₁) (f' := (mkF m 1 #[(.val (.ref p0)), (.val (.int (1 : Int32)))] [(.ref p0)])) (fun _ kont => XS.aloadN X0.here hx rfl (hb hby own_d1_0) rfl rfl kont) ?_
  obtain ⟨v1, T1, L1, hQ1, X1, st1⟩ := own_callU X0 hx hZ e0 hown (hw _ (List.mem_of_getElem? (i := 20) rfl)) (hw _ (List.mem_of_getElem? (i := 21) rfl)) (hw _ (List.mem_of_getElem? (i := 22) rfl)) (hw _ (List.mem_of_getElem? (i := 24) rfl)) (hw _ (List.mem_of_getElem? (i := 23) rfl)) (by decide) (b := p0) H0 (hw _ (List.mem_of_getElem? (i := 26) rfl)) (hw _ (List.mem_of_getElem? (i := 25) rfl)) (own_k2_2 l Z a0 hw p0 h0 H1) (g := (mkF m 1 #[(.val (.ref p0)), (.val (.int (1 : Int32)))] [(.ref p0)])) rfl (by rw [hml]; rfl) rfl (argsL := []) (rest := []) rfl (lenOf own_pd0 rfl) rfl (hb hby own_d1_1) (Nat.le_of_ble_eq_true rfl) (Nat.le_of_ble_eq_true rfl) (Nat.le_of_ble_eq_true rfl) (Nat.le_of_ble_eq_true rfl)
  obtain ⟨rfl, rfl, e1⟩ := hQ1
  rw [List.append_nil] at X1
  refine own_st (T' := T1) (f' := (mkF m 4 #[(.val (.ref p0)), (.val (.int (1 : Int32)))] [(.int (0 : Int32))])) st1 ?_
  refine own_st (T' := T1) (f' := (mkF m 50 #[(.val (.ref p0)), (.val (.int (1 : Int32)))] [])) (fun _ kont => XS.tswIn X1.here hx rfl (pc0 := 4) (pc' := 50) rfl (hb hby own_d1_4) rfl (o := 46) (by decide) (by decide) (by decide) (by decide) kont) ?_
  refine own_st (T' := T1) (f' := (mkF m 51 #[(.val (.ref p0)), (.val (.int (1 : Int32)))] [(.int (0 : Int32))])) (fun _ kont => XS.iconst X1.here hx rfl (hb hby own_d1_50) kont) ?_
  refine own_st (T' := T1) (f' := (mkF m 67 #[(.val (.ref p0)), (.val (.int (1 : Int32)))] [(.int (0 : Int32))])) (fun _ kont => XS.goto X1.here hx rfl (pc0 := 51) (pc' := 67) rfl (hb hby own_d1_51) (by decide) (by decide) kont) ?_
  exact own_retN X1 hx hlk (t := .boolean) hret (by simp) (hb hby own_d1_67) ⟨rfl, rfl, e1⟩ (by decide) (by decide)
set_option maxRecDepth 65536 in
set_option maxHeartbeats 40000000 in
theorem own_k2_6 (l : Launch) (Z : State) (a0 : Array Value) (hw : ∀ d ∈ tables_1, d.before a0 Z = true) (p0 : Addr) (h0 : Heap) (H0 : Fld Z h0 p0 "java/lang/Enum" "ordinal" "I" (.int (1 : Int32))) :
    own_C l (⟨"java/lang/Enum", "ordinal", "()I"⟩ : MethodName) jdk_37_method_2_code 1 (some .int) (own_R 0 0 0 0) Z h0 #[(.ref p0)] (own_P (some (.int (1 : Int32))) h0) := by
  refine own_body own_pn2 ?_
  intro p e s m below meth c s₁ hx hby hml hZ hown hnm hret hlk X0 e0
  refine own_cast (f' := (mkF m 0 #[(.val (.ref p0))] [])) (by first | (simp [entryFrame, mkF, argsToLocals, Value.category, maxLocals]; done) | rfl) ?_
  refine own_st (T' := s₁) (f' := (mkF m 1 #[(.val (.ref p0))] [(.ref p0)])) (fun _ kont => XS.aloadN X0.here hx rfl (hb hby own_d2_0) rfl rfl kont) ?_
  obtain ⟨T1, X1, e1, st1⟩ := getF X0 hx hZ hown (host := "") (Or.inl (hw _ (List.mem_of_getElem? (i := 27) rfl))) Via.refl e0 H0 (g := (mkF m 1 #[(.val (.ref p0))] [(.ref p0)])) rfl rfl (hb hby own_d2_1)
  refine own_st (T' := T1) (f' := (mkF m 4 #[(.val (.ref p0))] [(.int (1 : Int32))])) st1 ?_
  exact own_retI X1 hx hlk hret (hb hby own_d2_4) ⟨rfl, rfl, e1⟩ (by decide) (by decide)
set_option maxRecDepth 65536 in
set_option maxHeartbeats 40000000 in
theorem own_k1_5 (l : Launch) (Z : State) (a0 : Array Value) (hw : ∀ d ∈ tables_1, d.before a0 Z = true) (p0 : Addr) (h0 : Heap) (H0 : Exa Z h0 p0 "com/example/usher/usher/LaunchMode") (H1 : Fld Z h0 p0 "java/lang/Enum" "ordinal" "I" (.int (1 : Int32))) :
    own_C l (⟨"com/example/usher/usher/LaunchMode", "carriesNewTask", "(Z)Z"⟩ : MethodName) prog_40_method_10_code 2 (some .boolean) (own_R 1 0 0 12) Z h0 #[(.ref p0), (.int (0 : Int32))] (own_P (some (.int (0 : Int32))) h0) := by
  refine own_body own_pn1 ?_
  intro p e s m below meth c s₁ hx hby hml hZ hown hnm hret hlk X0 e0
  refine own_cast (f' := (mkF m 0 #[(.val (.ref p0)), (.val (.int (0 : Int32)))] [])) (by first | (simp [entryFrame, mkF, argsToLocals, Value.category, maxLocals]; done) | rfl) ?_
  refine own_st (T' := s₁) (f' := (mkF m 1 #[(.val (.ref p0)), (.val (.int (0 : Int32)))] [(.ref p0)])) (fun _ kont => XS.aloadN X0.here hx rfl (hb hby own_d1_0) rfl rfl kont) ?_
  obtain ⟨v1, T1, L1, hQ1, X1, st1⟩ := own_callU X0 hx hZ e0 hown (hw _ (List.mem_of_getElem? (i := 20) rfl)) (hw _ (List.mem_of_getElem? (i := 21) rfl)) (hw _ (List.mem_of_getElem? (i := 22) rfl)) (hw _ (List.mem_of_getElem? (i := 24) rfl)) (hw _ (List.mem_of_getElem? (i := 23) rfl)) (by decide) (b := p0) H0 (hw _ (List.mem_of_getElem? (i := 26) rfl)) (hw _ (List.mem_of_getElem? (i := 25) rfl)) (own_k2_6 l Z a0 hw p0 h0 H1) (g := (mkF m 1 #[(.val (.ref p0)), (.val (.int (0 : Int32)))] [(.ref p0)])) rfl (by rw [hml]; rfl) rfl (argsL := []) (rest := []) rfl (lenOf own_pd0 rfl) rfl (hb hby own_d1_1) (Nat.le_of_ble_eq_true rfl) (Nat.le_of_ble_eq_true rfl) (Nat.le_of_ble_eq_true rfl) (Nat.le_of_ble_eq_true rfl)
  obtain ⟨rfl, rfl, e1⟩ := hQ1
  rw [List.append_nil] at X1
  refine own_st (T' := T1) (f' := (mkF m 4 #[(.val (.ref p0)), (.val (.int (0 : Int32)))] [(.int (1 : Int32))])) st1 ?_
  refine own_st (T' := T1) (f' := (mkF m 50 #[(.val (.ref p0)), (.val (.int (0 : Int32)))] [])) (fun _ kont => XS.tswIn X1.here hx rfl (pc0 := 4) (pc' := 50) rfl (hb hby own_d1_4) rfl (o := 46) (by decide) (by decide) (by decide) (by decide) kont) ?_
  refine own_st (T' := T1) (f' := (mkF m 51 #[(.val (.ref p0)), (.val (.int (0 : Int32)))] [(.int (0 : Int32))])) (fun _ kont => XS.iconst X1.here hx rfl (hb hby own_d1_50) kont) ?_
  refine own_st (T' := T1) (f' := (mkF m 67 #[(.val (.ref p0)), (.val (.int (0 : Int32)))] [(.int (0 : Int32))])) (fun _ kont => XS.goto X1.here hx rfl (pc0 := 51) (pc' := 67) rfl (hb hby own_d1_51) (by decide) (by decide) kont) ?_
  exact own_retN X1 hx hlk (t := .boolean) hret (by simp) (hb hby own_d1_67) ⟨rfl, rfl, e1⟩ (by decide) (by decide)
set_option maxRecDepth 65536 in
set_option maxHeartbeats 40000000 in
theorem own_k1_7 (l : Launch) (Z : State) (a0 : Array Value) (hw : ∀ d ∈ tables_1, d.before a0 Z = true) (p0 : Addr) (h0 : Heap) (H0 : Exa Z h0 p0 "com/example/usher/usher/LaunchMode") (H1 : Fld Z h0 p0 "java/lang/Enum" "ordinal" "I" (.int (1 : Int32))) :
    own_C l (⟨"com/example/usher/usher/LaunchMode", "carriesNewTask", "(Z)Z"⟩ : MethodName) prog_40_method_10_code 2 (some .boolean) (own_R 1 0 0 12) Z h0 #[(.ref p0), (.int (1 : Int32))] (own_P (some (.int (0 : Int32))) h0) := by
  refine own_body own_pn1 ?_
  intro p e s m below meth c s₁ hx hby hml hZ hown hnm hret hlk X0 e0
  refine own_cast (f' := (mkF m 0 #[(.val (.ref p0)), (.val (.int (1 : Int32)))] [])) (by first | (simp [entryFrame, mkF, argsToLocals, Value.category, maxLocals]; done) | rfl) ?_
  refine own_st (T' := s₁) (f' := (mkF m 1 #[(.val (.ref p0)), (.val (.int (1 : Int32)))] [(.ref p0)])) (fun _ kont => XS.aloadN X0.here hx rfl (hb hby own_d1_0) rfl rfl kont) ?_
  obtain ⟨v1, T1, L1, hQ1, X1, st1⟩ := own_callU X0 hx hZ e0 hown (hw _ (List.mem_of_getElem? (i := 20) rfl)) (hw _ (List.mem_of_getElem? (i := 21) rfl)) (hw _ (List.mem_of_getElem? (i := 22) rfl)) (hw _ (List.mem_of_getElem? (i := 24) rfl)) (hw _ (List.mem_of_getElem? (i := 23) rfl)) (by decide) (b := p0) H0 (hw _ (List.mem_of_getElem? (i := 26) rfl)) (hw _ (List.mem_of_getElem? (i := 25) rfl)) (own_k2_6 l Z a0 hw p0 h0 H1) (g := (mkF m 1 #[(.val (.ref p0)), (.val (.int (1 : Int32)))] [(.ref p0)])) rfl (by rw [hml]; rfl) rfl (argsL := []) (rest := []) rfl (lenOf own_pd0 rfl) rfl (hb hby own_d1_1) (Nat.le_of_ble_eq_true rfl) (Nat.le_of_ble_eq_true rfl) (Nat.le_of_ble_eq_true rfl) (Nat.le_of_ble_eq_true rfl)
  obtain ⟨rfl, rfl, e1⟩ := hQ1
  rw [List.append_nil] at X1
  refine own_st (T' := T1) (f' := (mkF m 4 #[(.val (.ref p0)), (.val (.int (1 : Int32)))] [(.int (1 : Int32))])) st1 ?_
  refine own_st (T' := T1) (f' := (mkF m 50 #[(.val (.ref p0)), (.val (.int (1 : Int32)))] [])) (fun _ kont => XS.tswIn X1.here hx rfl (pc0 := 4) (pc' := 50) rfl (hb hby own_d1_4) rfl (o := 46) (by decide) (by decide) (by decide) (by decide) kont) ?_
  refine own_st (T' := T1) (f' := (mkF m 51 #[(.val (.ref p0)), (.val (.int (1 : Int32)))] [(.int (0 : Int32))])) (fun _ kont => XS.iconst X1.here hx rfl (hb hby own_d1_50) kont) ?_
  refine own_st (T' := T1) (f' := (mkF m 67 #[(.val (.ref p0)), (.val (.int (1 : Int32)))] [(.int (0 : Int32))])) (fun _ kont => XS.goto X1.here hx rfl (pc0 := 51) (pc' := 67) rfl (hb hby own_d1_51) (by decide) (by decide) kont) ?_
  exact own_retN X1 hx hlk (t := .boolean) hret (by simp) (hb hby own_d1_67) ⟨rfl, rfl, e1⟩ (by decide) (by decide)
set_option maxRecDepth 65536 in
set_option maxHeartbeats 40000000 in
theorem own_k2_9 (l : Launch) (Z : State) (a0 : Array Value) (hw : ∀ d ∈ tables_1, d.before a0 Z = true) (p0 : Addr) (h0 : Heap) (H0 : Fld Z h0 p0 "java/lang/Enum" "ordinal" "I" (.int (2 : Int32))) :
    own_C l (⟨"java/lang/Enum", "ordinal", "()I"⟩ : MethodName) jdk_37_method_2_code 1 (some .int) (own_R 0 0 0 0) Z h0 #[(.ref p0)] (own_P (some (.int (2 : Int32))) h0) := by
  refine own_body own_pn2 ?_
  intro p e s m below meth c s₁ hx hby hml hZ hown hnm hret hlk X0 e0
  refine own_cast (f' := (mkF m 0 #[(.val (.ref p0))] [])) (by first | (simp [entryFrame, mkF, argsToLocals, Value.category, maxLocals]; done) | rfl) ?_
  refine own_st (T' := s₁) (f' := (mkF m 1 #[(.val (.ref p0))] [(.ref p0)])) (fun _ kont => XS.aloadN X0.here hx rfl (hb hby own_d2_0) rfl rfl kont) ?_
  obtain ⟨T1, X1, e1, st1⟩ := getF X0 hx hZ hown (host := "") (Or.inl (hw _ (List.mem_of_getElem? (i := 27) rfl))) Via.refl e0 H0 (g := (mkF m 1 #[(.val (.ref p0))] [(.ref p0)])) rfl rfl (hb hby own_d2_1)
  refine own_st (T' := T1) (f' := (mkF m 4 #[(.val (.ref p0))] [(.int (2 : Int32))])) st1 ?_
  exact own_retI X1 hx hlk hret (hb hby own_d2_4) ⟨rfl, rfl, e1⟩ (by decide) (by decide)
theorem own_d1_54 : decode prog_40_method_10_code 54 = .ok (.iload_n 1, 1) := by decide +kernel
theorem own_d1_55 : decode prog_40_method_10_code 55 = .ok (.ifCond .ne 7, 3) := by decide +kernel
theorem own_d1_58 : decode prog_40_method_10_code 58 = .ok (.iconst 1, 1) := by decide +kernel
theorem own_d1_59 : decode prog_40_method_10_code 59 = .ok (.goto 8, 3) := by decide +kernel
set_option maxRecDepth 65536 in
set_option maxHeartbeats 40000000 in
theorem own_k1_8 (l : Launch) (Z : State) (a0 : Array Value) (hw : ∀ d ∈ tables_1, d.before a0 Z = true) (p0 : Addr) (h0 : Heap) (H0 : Exa Z h0 p0 "com/example/usher/usher/LaunchMode") (H1 : Fld Z h0 p0 "java/lang/Enum" "ordinal" "I" (.int (2 : Int32))) :
    own_C l (⟨"com/example/usher/usher/LaunchMode", "carriesNewTask", "(Z)Z"⟩ : MethodName) prog_40_method_10_code 2 (some .boolean) (own_R 1 0 0 12) Z h0 #[(.ref p0), (.int (0 : Int32))] (own_P (some (.int (1 : Int32))) h0) := by
  refine own_body own_pn1 ?_
  intro p e s m below meth c s₁ hx hby hml hZ hown hnm hret hlk X0 e0
  refine own_cast (f' := (mkF m 0 #[(.val (.ref p0)), (.val (.int (0 : Int32)))] [])) (by first | (simp [entryFrame, mkF, argsToLocals, Value.category, maxLocals]; done) | rfl) ?_
  refine own_st (T' := s₁) (f' := (mkF m 1 #[(.val (.ref p0)), (.val (.int (0 : Int32)))] [(.ref p0)])) (fun _ kont => XS.aloadN X0.here hx rfl (hb hby own_d1_0) rfl rfl kont) ?_
  obtain ⟨v1, T1, L1, hQ1, X1, st1⟩ := own_callU X0 hx hZ e0 hown (hw _ (List.mem_of_getElem? (i := 20) rfl)) (hw _ (List.mem_of_getElem? (i := 21) rfl)) (hw _ (List.mem_of_getElem? (i := 22) rfl)) (hw _ (List.mem_of_getElem? (i := 24) rfl)) (hw _ (List.mem_of_getElem? (i := 23) rfl)) (by decide) (b := p0) H0 (hw _ (List.mem_of_getElem? (i := 26) rfl)) (hw _ (List.mem_of_getElem? (i := 25) rfl)) (own_k2_9 l Z a0 hw p0 h0 H1) (g := (mkF m 1 #[(.val (.ref p0)), (.val (.int (0 : Int32)))] [(.ref p0)])) rfl (by rw [hml]; rfl) rfl (argsL := []) (rest := []) rfl (lenOf own_pd0 rfl) rfl (hb hby own_d1_1) (Nat.le_of_ble_eq_true rfl) (Nat.le_of_ble_eq_true rfl) (Nat.le_of_ble_eq_true rfl) (Nat.le_of_ble_eq_true rfl)
  obtain ⟨rfl, rfl, e1⟩ := hQ1
  rw [List.append_nil] at X1
  refine own_st (T' := T1) (f' := (mkF m 4 #[(.val (.ref p0)), (.val (.int (0 : Int32)))] [(.int (2 : Int32))])) st1 ?_
  refine own_st (T' := T1) (f' := (mkF m 54 #[(.val (.ref p0)), (.val (.int (0 : Int32)))] [])) (fun _ kont => XS.tswIn X1.here hx rfl (pc0 := 4) (pc' := 54) rfl (hb hby own_d1_4) rfl (o := 50) (by decide) (by decide) (by decide) (by decide) kont) ?_
  refine own_st (T' := T1) (f' := (mkF m 55 #[(.val (.ref p0)), (.val (.int (0 : Int32)))] [(.int (0 : Int32))])) (fun _ kont => XS.iloadN X1.here hx rfl (hb hby own_d1_54) rfl kont) ?_
  refine own_st (T' := T1) (f' := (mkF m 58 #[(.val (.ref p0)), (.val (.int (0 : Int32)))] [])) (fun _ kont => XS.ifNo X1.here hx rfl (hb hby own_d1_55) rfl ((if0 _ _).trans (teq (by decide : (0 : Int32) = (0 : Int32))).2) kont) ?_
  refine own_st (T' := T1) (f' := (mkF m 59 #[(.val (.ref p0)), (.val (.int (0 : Int32)))] [(.int (1 : Int32))])) (fun _ kont => XS.iconst X1.here hx rfl (hb hby own_d1_58) kont) ?_
  refine own_st (T' := T1) (f' := (mkF m 67 #[(.val (.ref p0)), (.val (.int (0 : Int32)))] [(.int (1 : Int32))])) (fun _ kont => XS.goto X1.here hx rfl (pc0 := 59) (pc' := 67) rfl (hb hby own_d1_59) (by decide) (by decide) kont) ?_
  exact own_retN X1 hx hlk (t := .boolean) hret (by simp) (hb hby own_d1_67) ⟨rfl, rfl, e1⟩ (by decide) (by decide)
set_option maxRecDepth 65536 in
set_option maxHeartbeats 40000000 in
theorem own_k3_10 (l : Launch) (Z : State) (a0 : Array Value) (hw : ∀ d ∈ tables_1, d.before a0 Z = true) (p0 : Addr) (h0 : Heap) (H0 : Fld Z h0 p0 "com/example/usher/usher/LaunchMode" "keepsOneInstance" "Z" (.int (1 : Int32))) :
    own_C l (⟨"com/example/usher/usher/LaunchMode", "keepsOneInstance", "()Z"⟩ : MethodName) prog_40_method_5_code 1 (some .boolean) (own_R 0 0 0 0) Z h0 #[(.ref p0)] (own_P (some (.int (1 : Int32))) h0) := by
  refine own_body own_pn3 ?_
  intro p e s m below meth c s₁ hx hby hml hZ hown hnm hret hlk X0 e0
  refine own_cast (f' := (mkF m 0 #[(.val (.ref p0))] [])) (by first | (simp [entryFrame, mkF, argsToLocals, Value.category, maxLocals]; done) | rfl) ?_
  refine own_st (T' := s₁) (f' := (mkF m 1 #[(.val (.ref p0))] [(.ref p0)])) (fun _ kont => XS.aloadN X0.here hx rfl (hb hby own_d3_0) rfl rfl kont) ?_
  obtain ⟨T1, X1, e1, st1⟩ := getF X0 hx hZ hown (host := "") (Or.inl (hw _ (List.mem_of_getElem? (i := 34) rfl))) Via.refl e0 H0 (g := (mkF m 1 #[(.val (.ref p0))] [(.ref p0)])) rfl rfl (hb hby own_d3_1)
  refine own_st (T' := T1) (f' := (mkF m 4 #[(.val (.ref p0))] [(.int (1 : Int32))])) st1 ?_
  exact own_retN X1 hx hlk (t := .boolean) hret (by simp) (hb hby own_d3_4) ⟨rfl, rfl, e1⟩ (by decide) (by decide)
theorem own_d1_62 : decode prog_40_method_10_code 62 = .ok (.iconst 0, 1) := by decide +kernel
theorem own_d1_63 : decode prog_40_method_10_code 63 = .ok (.goto 4, 3) := by decide +kernel
set_option maxRecDepth 65536 in
set_option maxHeartbeats 40000000 in
theorem own_k1_11 (l : Launch) (Z : State) (a0 : Array Value) (hw : ∀ d ∈ tables_1, d.before a0 Z = true) (p0 : Addr) (h0 : Heap) (H0 : Exa Z h0 p0 "com/example/usher/usher/LaunchMode") (H1 : Fld Z h0 p0 "java/lang/Enum" "ordinal" "I" (.int (2 : Int32))) :
    own_C l (⟨"com/example/usher/usher/LaunchMode", "carriesNewTask", "(Z)Z"⟩ : MethodName) prog_40_method_10_code 2 (some .boolean) (own_R 1 0 0 12) Z h0 #[(.ref p0), (.int (1 : Int32))] (own_P (some (.int (0 : Int32))) h0) := by
  refine own_body own_pn1 ?_
  intro p e s m below meth c s₁ hx hby hml hZ hown hnm hret hlk X0 e0
  refine own_cast (f' := (mkF m 0 #[(.val (.ref p0)), (.val (.int (1 : Int32)))] [])) (by first | (simp [entryFrame, mkF, argsToLocals, Value.category, maxLocals]; done) | rfl) ?_
  refine own_st (T' := s₁) (f' := (mkF m 1 #[(.val (.ref p0)), (.val (.int (1 : Int32)))] [(.ref p0)])) (fun _ kont => XS.aloadN X0.here hx rfl (hb hby own_d1_0) rfl rfl kont) ?_
  obtain ⟨v1, T1, L1, hQ1, X1, st1⟩ := own_callU X0 hx hZ e0 hown (hw _ (List.mem_of_getElem? (i := 20) rfl)) (hw _ (List.mem_of_getElem? (i := 21) rfl)) (hw _ (List.mem_of_getElem? (i := 22) rfl)) (hw _ (List.mem_of_getElem? (i := 24) rfl)) (hw _ (List.mem_of_getElem? (i := 23) rfl)) (by decide) (b := p0) H0 (hw _ (List.mem_of_getElem? (i := 26) rfl)) (hw _ (List.mem_of_getElem? (i := 25) rfl)) (own_k2_9 l Z a0 hw p0 h0 H1) (g := (mkF m 1 #[(.val (.ref p0)), (.val (.int (1 : Int32)))] [(.ref p0)])) rfl (by rw [hml]; rfl) rfl (argsL := []) (rest := []) rfl (lenOf own_pd0 rfl) rfl (hb hby own_d1_1) (Nat.le_of_ble_eq_true rfl) (Nat.le_of_ble_eq_true rfl) (Nat.le_of_ble_eq_true rfl) (Nat.le_of_ble_eq_true rfl)
  obtain ⟨rfl, rfl, e1⟩ := hQ1
  rw [List.append_nil] at X1
  refine own_st (T' := T1) (f' := (mkF m 4 #[(.val (.ref p0)), (.val (.int (1 : Int32)))] [(.int (2 : Int32))])) st1 ?_
  refine own_st (T' := T1) (f' := (mkF m 54 #[(.val (.ref p0)), (.val (.int (1 : Int32)))] [])) (fun _ kont => XS.tswIn X1.here hx rfl (pc0 := 4) (pc' := 54) rfl (hb hby own_d1_4) rfl (o := 50) (by decide) (by decide) (by decide) (by decide) kont) ?_
  refine own_st (T' := T1) (f' := (mkF m 55 #[(.val (.ref p0)), (.val (.int (1 : Int32)))] [(.int (1 : Int32))])) (fun _ kont => XS.iloadN X1.here hx rfl (hb hby own_d1_54) rfl kont) ?_
  refine own_st (T' := T1) (f' := (mkF m 62 #[(.val (.ref p0)), (.val (.int (1 : Int32)))] [])) (fun _ kont => XS.ifYes X1.here hx rfl (pc0 := 55) (pc' := 62) rfl (hb hby own_d1_55) rfl ((if0 _ _).trans (feq (by decide : ¬ ((1 : Int32) = (0 : Int32)))).2) (by decide) (by decide) kont) ?_
  refine own_st (T' := T1) (f' := (mkF m 63 #[(.val (.ref p0)), (.val (.int (1 : Int32)))] [(.int (0 : Int32))])) (fun _ kont => XS.iconst X1.here hx rfl (hb hby own_d1_62) kont) ?_
  refine own_st (T' := T1) (f' := (mkF m 67 #[(.val (.ref p0)), (.val (.int (1 : Int32)))] [(.int (0 : Int32))])) (fun _ kont => XS.goto X1.here hx rfl (pc0 := 63) (pc' := 67) rfl (hb hby own_d1_63) (by decide) (by decide) kont) ?_
  exact own_retN X1 hx hlk (t := .boolean) hret (by simp) (hb hby own_d1_67) ⟨rfl, rfl, e1⟩ (by decide) (by decide)
set_option maxRecDepth 65536 in
set_option maxHeartbeats 40000000 in
theorem own_k2_13 (l : Launch) (Z : State) (a0 : Array Value) (hw : ∀ d ∈ tables_1, d.before a0 Z = true) (p0 : Addr) (h0 : Heap) (H0 : Fld Z h0 p0 "java/lang/Enum" "ordinal" "I" (.int (3 : Int32))) :
    own_C l (⟨"java/lang/Enum", "ordinal", "()I"⟩ : MethodName) jdk_37_method_2_code 1 (some .int) (own_R 0 0 0 0) Z h0 #[(.ref p0)] (own_P (some (.int (3 : Int32))) h0) := by
  refine own_body own_pn2 ?_
  intro p e s m below meth c s₁ hx hby hml hZ hown hnm hret hlk X0 e0
  refine own_cast (f' := (mkF m 0 #[(.val (.ref p0))] [])) (by first | (simp [entryFrame, mkF, argsToLocals, Value.category, maxLocals]; done) | rfl) ?_
  refine own_st (T' := s₁) (f' := (mkF m 1 #[(.val (.ref p0))] [(.ref p0)])) (fun _ kont => XS.aloadN X0.here hx rfl (hb hby own_d2_0) rfl rfl kont) ?_
  obtain ⟨T1, X1, e1, st1⟩ := getF X0 hx hZ hown (host := "") (Or.inl (hw _ (List.mem_of_getElem? (i := 27) rfl))) Via.refl e0 H0 (g := (mkF m 1 #[(.val (.ref p0))] [(.ref p0)])) rfl rfl (hb hby own_d2_1)
  refine own_st (T' := T1) (f' := (mkF m 4 #[(.val (.ref p0))] [(.int (3 : Int32))])) st1 ?_
  exact own_retI X1 hx hlk hret (hb hby own_d2_4) ⟨rfl, rfl, e1⟩ (by decide) (by decide)
theorem own_d1_66 : decode prog_40_method_10_code 66 = .ok (.iconst 1, 1) := by decide +kernel
set_option maxRecDepth 65536 in
set_option maxHeartbeats 40000000 in
theorem own_k1_12 (l : Launch) (Z : State) (a0 : Array Value) (hw : ∀ d ∈ tables_1, d.before a0 Z = true) (p0 : Addr) (h0 : Heap) (H0 : Exa Z h0 p0 "com/example/usher/usher/LaunchMode") (H1 : Fld Z h0 p0 "java/lang/Enum" "ordinal" "I" (.int (3 : Int32))) :
    own_C l (⟨"com/example/usher/usher/LaunchMode", "carriesNewTask", "(Z)Z"⟩ : MethodName) prog_40_method_10_code 2 (some .boolean) (own_R 1 0 0 12) Z h0 #[(.ref p0), (.int (0 : Int32))] (own_P (some (.int (1 : Int32))) h0) := by
  refine own_body own_pn1 ?_
  intro p e s m below meth c s₁ hx hby hml hZ hown hnm hret hlk X0 e0
  refine own_cast (f' := (mkF m 0 #[(.val (.ref p0)), (.val (.int (0 : Int32)))] [])) (by first | (simp [entryFrame, mkF, argsToLocals, Value.category, maxLocals]; done) | rfl) ?_
  refine own_st (T' := s₁) (f' := (mkF m 1 #[(.val (.ref p0)), (.val (.int (0 : Int32)))] [(.ref p0)])) (fun _ kont => XS.aloadN X0.here hx rfl (hb hby own_d1_0) rfl rfl kont) ?_
  obtain ⟨v1, T1, L1, hQ1, X1, st1⟩ := own_callU X0 hx hZ e0 hown (hw _ (List.mem_of_getElem? (i := 20) rfl)) (hw _ (List.mem_of_getElem? (i := 21) rfl)) (hw _ (List.mem_of_getElem? (i := 22) rfl)) (hw _ (List.mem_of_getElem? (i := 24) rfl)) (hw _ (List.mem_of_getElem? (i := 23) rfl)) (by decide) (b := p0) H0 (hw _ (List.mem_of_getElem? (i := 26) rfl)) (hw _ (List.mem_of_getElem? (i := 25) rfl)) (own_k2_13 l Z a0 hw p0 h0 H1) (g := (mkF m 1 #[(.val (.ref p0)), (.val (.int (0 : Int32)))] [(.ref p0)])) rfl (by rw [hml]; rfl) rfl (argsL := []) (rest := []) rfl (lenOf own_pd0 rfl) rfl (hb hby own_d1_1) (Nat.le_of_ble_eq_true rfl) (Nat.le_of_ble_eq_true rfl) (Nat.le_of_ble_eq_true rfl) (Nat.le_of_ble_eq_true rfl)
  obtain ⟨rfl, rfl, e1⟩ := hQ1
  rw [List.append_nil] at X1
  refine own_st (T' := T1) (f' := (mkF m 4 #[(.val (.ref p0)), (.val (.int (0 : Int32)))] [(.int (3 : Int32))])) st1 ?_
  refine own_st (T' := T1) (f' := (mkF m 66 #[(.val (.ref p0)), (.val (.int (0 : Int32)))] [])) (fun _ kont => XS.tswIn X1.here hx rfl (pc0 := 4) (pc' := 66) rfl (hb hby own_d1_4) rfl (o := 62) (by decide) (by decide) (by decide) (by decide) kont) ?_
  refine own_st (T' := T1) (f' := (mkF m 67 #[(.val (.ref p0)), (.val (.int (0 : Int32)))] [(.int (1 : Int32))])) (fun _ kont => XS.iconst X1.here hx rfl (hb hby own_d1_66) kont) ?_
  exact own_retN X1 hx hlk (t := .boolean) hret (by simp) (hb hby own_d1_67) ⟨rfl, rfl, e1⟩ (by decide) (by decide)
set_option maxRecDepth 65536 in
set_option maxHeartbeats 40000000 in
theorem own_k1_14 (l : Launch) (Z : State) (a0 : Array Value) (hw : ∀ d ∈ tables_1, d.before a0 Z = true) (p0 : Addr) (h0 : Heap) (H0 : Exa Z h0 p0 "com/example/usher/usher/LaunchMode") (H1 : Fld Z h0 p0 "java/lang/Enum" "ordinal" "I" (.int (3 : Int32))) :
    own_C l (⟨"com/example/usher/usher/LaunchMode", "carriesNewTask", "(Z)Z"⟩ : MethodName) prog_40_method_10_code 2 (some .boolean) (own_R 1 0 0 12) Z h0 #[(.ref p0), (.int (1 : Int32))] (own_P (some (.int (1 : Int32))) h0) := by
  refine own_body own_pn1 ?_
  intro p e s m below meth c s₁ hx hby hml hZ hown hnm hret hlk X0 e0
  refine own_cast (f' := (mkF m 0 #[(.val (.ref p0)), (.val (.int (1 : Int32)))] [])) (by first | (simp [entryFrame, mkF, argsToLocals, Value.category, maxLocals]; done) | rfl) ?_
  refine own_st (T' := s₁) (f' := (mkF m 1 #[(.val (.ref p0)), (.val (.int (1 : Int32)))] [(.ref p0)])) (fun _ kont => XS.aloadN X0.here hx rfl (hb hby own_d1_0) rfl rfl kont) ?_
  obtain ⟨v1, T1, L1, hQ1, X1, st1⟩ := own_callU X0 hx hZ e0 hown (hw _ (List.mem_of_getElem? (i := 20) rfl)) (hw _ (List.mem_of_getElem? (i := 21) rfl)) (hw _ (List.mem_of_getElem? (i := 22) rfl)) (hw _ (List.mem_of_getElem? (i := 24) rfl)) (hw _ (List.mem_of_getElem? (i := 23) rfl)) (by decide) (b := p0) H0 (hw _ (List.mem_of_getElem? (i := 26) rfl)) (hw _ (List.mem_of_getElem? (i := 25) rfl)) (own_k2_13 l Z a0 hw p0 h0 H1) (g := (mkF m 1 #[(.val (.ref p0)), (.val (.int (1 : Int32)))] [(.ref p0)])) rfl (by rw [hml]; rfl) rfl (argsL := []) (rest := []) rfl (lenOf own_pd0 rfl) rfl (hb hby own_d1_1) (Nat.le_of_ble_eq_true rfl) (Nat.le_of_ble_eq_true rfl) (Nat.le_of_ble_eq_true rfl) (Nat.le_of_ble_eq_true rfl)
  obtain ⟨rfl, rfl, e1⟩ := hQ1
  rw [List.append_nil] at X1
  refine own_st (T' := T1) (f' := (mkF m 4 #[(.val (.ref p0)), (.val (.int (1 : Int32)))] [(.int (3 : Int32))])) st1 ?_
  refine own_st (T' := T1) (f' := (mkF m 66 #[(.val (.ref p0)), (.val (.int (1 : Int32)))] [])) (fun _ kont => XS.tswIn X1.here hx rfl (pc0 := 4) (pc' := 66) rfl (hb hby own_d1_4) rfl (o := 62) (by decide) (by decide) (by decide) (by decide) kont) ?_
  refine own_st (T' := T1) (f' := (mkF m 67 #[(.val (.ref p0)), (.val (.int (1 : Int32)))] [(.int (1 : Int32))])) (fun _ kont => XS.iconst X1.here hx rfl (hb hby own_d1_66) kont) ?_
  exact own_retN X1 hx hlk (t := .boolean) hret (by simp) (hb hby own_d1_67) ⟨rfl, rfl, e1⟩ (by decide) (by decide)
set_option maxRecDepth 65536 in
set_option maxHeartbeats 40000000 in
theorem own_k2_16 (l : Launch) (Z : State) (a0 : Array Value) (hw : ∀ d ∈ tables_1, d.before a0 Z = true) (p0 : Addr) (h0 : Heap) (H0 : Fld Z h0 p0 "java/lang/Enum" "ordinal" "I" (.int (4 : Int32))) :
    own_C l (⟨"java/lang/Enum", "ordinal", "()I"⟩ : MethodName) jdk_37_method_2_code 1 (some .int) (own_R 0 0 0 0) Z h0 #[(.ref p0)] (own_P (some (.int (4 : Int32))) h0) := by
  refine own_body own_pn2 ?_
  intro p e s m below meth c s₁ hx hby hml hZ hown hnm hret hlk X0 e0
  refine own_cast (f' := (mkF m 0 #[(.val (.ref p0))] [])) (by first | (simp [entryFrame, mkF, argsToLocals, Value.category, maxLocals]; done) | rfl) ?_
  refine own_st (T' := s₁) (f' := (mkF m 1 #[(.val (.ref p0))] [(.ref p0)])) (fun _ kont => XS.aloadN X0.here hx rfl (hb hby own_d2_0) rfl rfl kont) ?_
  obtain ⟨T1, X1, e1, st1⟩ := getF X0 hx hZ hown (host := "") (Or.inl (hw _ (List.mem_of_getElem? (i := 27) rfl))) Via.refl e0 H0 (g := (mkF m 1 #[(.val (.ref p0))] [(.ref p0)])) rfl rfl (hb hby own_d2_1)
  refine own_st (T' := T1) (f' := (mkF m 4 #[(.val (.ref p0))] [(.int (4 : Int32))])) st1 ?_
  exact own_retI X1 hx hlk hret (hb hby own_d2_4) ⟨rfl, rfl, e1⟩ (by decide) (by decide)
set_option maxRecDepth 65536 in
set_option maxHeartbeats 40000000 in
theorem own_k1_15 (l : Launch) (Z : State) (a0 : Array Value) (hw : ∀ d ∈ tables_1, d.before a0 Z = true) (p0 : Addr) (h0 : Heap) (H0 : Exa Z h0 p0 "com/example/usher/usher/LaunchMode") (H1 : Fld Z h0 p0 "java/lang/Enum" "ordinal" "I" (.int (4 : Int32))) :
    own_C l (⟨"com/example/usher/usher/LaunchMode", "carriesNewTask", "(Z)Z"⟩ : MethodName) prog_40_method_10_code 2 (some .boolean) (own_R 1 0 0 12) Z h0 #[(.ref p0), (.int (0 : Int32))] (own_P (some (.int (1 : Int32))) h0) := by
  refine own_body own_pn1 ?_
  intro p e s m below meth c s₁ hx hby hml hZ hown hnm hret hlk X0 e0
  refine own_cast (f' := (mkF m 0 #[(.val (.ref p0)), (.val (.int (0 : Int32)))] [])) (by first | (simp [entryFrame, mkF, argsToLocals, Value.category, maxLocals]; done) | rfl) ?_
  refine own_st (T' := s₁) (f' := (mkF m 1 #[(.val (.ref p0)), (.val (.int (0 : Int32)))] [(.ref p0)])) (fun _ kont => XS.aloadN X0.here hx rfl (hb hby own_d1_0) rfl rfl kont) ?_
  obtain ⟨v1, T1, L1, hQ1, X1, st1⟩ := own_callU X0 hx hZ e0 hown (hw _ (List.mem_of_getElem? (i := 20) rfl)) (hw _ (List.mem_of_getElem? (i := 21) rfl)) (hw _ (List.mem_of_getElem? (i := 22) rfl)) (hw _ (List.mem_of_getElem? (i := 24) rfl)) (hw _ (List.mem_of_getElem? (i := 23) rfl)) (by decide) (b := p0) H0 (hw _ (List.mem_of_getElem? (i := 26) rfl)) (hw _ (List.mem_of_getElem? (i := 25) rfl)) (own_k2_16 l Z a0 hw p0 h0 H1) (g := (mkF m 1 #[(.val (.ref p0)), (.val (.int (0 : Int32)))] [(.ref p0)])) rfl (by rw [hml]; rfl) rfl (argsL := []) (rest := []) rfl (lenOf own_pd0 rfl) rfl (hb hby own_d1_1) (Nat.le_of_ble_eq_true rfl) (Nat.le_of_ble_eq_true rfl) (Nat.le_of_ble_eq_true rfl) (Nat.le_of_ble_eq_true rfl)
  obtain ⟨rfl, rfl, e1⟩ := hQ1
  rw [List.append_nil] at X1
  refine own_st (T' := T1) (f' := (mkF m 4 #[(.val (.ref p0)), (.val (.int (0 : Int32)))] [(.int (4 : Int32))])) st1 ?_
  refine own_st (T' := T1) (f' := (mkF m 66 #[(.val (.ref p0)), (.val (.int (0 : Int32)))] [])) (fun _ kont => XS.tswIn X1.here hx rfl (pc0 := 4) (pc' := 66) rfl (hb hby own_d1_4) rfl (o := 62) (by decide) (by decide) (by decide) (by decide) kont) ?_
  refine own_st (T' := T1) (f' := (mkF m 67 #[(.val (.ref p0)), (.val (.int (0 : Int32)))] [(.int (1 : Int32))])) (fun _ kont => XS.iconst X1.here hx rfl (hb hby own_d1_66) kont) ?_
  exact own_retN X1 hx hlk (t := .boolean) hret (by simp) (hb hby own_d1_67) ⟨rfl, rfl, e1⟩ (by decide) (by decide)
set_option maxRecDepth 65536 in
set_option maxHeartbeats 40000000 in
theorem own_k1_17 (l : Launch) (Z : State) (a0 : Array Value) (hw : ∀ d ∈ tables_1, d.before a0 Z = true) (p0 : Addr) (h0 : Heap) (H0 : Exa Z h0 p0 "com/example/usher/usher/LaunchMode") (H1 : Fld Z h0 p0 "java/lang/Enum" "ordinal" "I" (.int (4 : Int32))) :
    own_C l (⟨"com/example/usher/usher/LaunchMode", "carriesNewTask", "(Z)Z"⟩ : MethodName) prog_40_method_10_code 2 (some .boolean) (own_R 1 0 0 12) Z h0 #[(.ref p0), (.int (1 : Int32))] (own_P (some (.int (1 : Int32))) h0) := by
  refine own_body own_pn1 ?_
  intro p e s m below meth c s₁ hx hby hml hZ hown hnm hret hlk X0 e0
  refine own_cast (f' := (mkF m 0 #[(.val (.ref p0)), (.val (.int (1 : Int32)))] [])) (by first | (simp [entryFrame, mkF, argsToLocals, Value.category, maxLocals]; done) | rfl) ?_
  refine own_st (T' := s₁) (f' := (mkF m 1 #[(.val (.ref p0)), (.val (.int (1 : Int32)))] [(.ref p0)])) (fun _ kont => XS.aloadN X0.here hx rfl (hb hby own_d1_0) rfl rfl kont) ?_
  obtain ⟨v1, T1, L1, hQ1, X1, st1⟩ := own_callU X0 hx hZ e0 hown (hw _ (List.mem_of_getElem? (i := 20) rfl)) (hw _ (List.mem_of_getElem? (i := 21) rfl)) (hw _ (List.mem_of_getElem? (i := 22) rfl)) (hw _ (List.mem_of_getElem? (i := 24) rfl)) (hw _ (List.mem_of_getElem? (i := 23) rfl)) (by decide) (b := p0) H0 (hw _ (List.mem_of_getElem? (i := 26) rfl)) (hw _ (List.mem_of_getElem? (i := 25) rfl)) (own_k2_16 l Z a0 hw p0 h0 H1) (g := (mkF m 1 #[(.val (.ref p0)), (.val (.int (1 : Int32)))] [(.ref p0)])) rfl (by rw [hml]; rfl) rfl (argsL := []) (rest := []) rfl (lenOf own_pd0 rfl) rfl (hb hby own_d1_1) (Nat.le_of_ble_eq_true rfl) (Nat.le_of_ble_eq_true rfl) (Nat.le_of_ble_eq_true rfl) (Nat.le_of_ble_eq_true rfl)
  obtain ⟨rfl, rfl, e1⟩ := hQ1
  rw [List.append_nil] at X1
  refine own_st (T' := T1) (f' := (mkF m 4 #[(.val (.ref p0)), (.val (.int (1 : Int32)))] [(.int (4 : Int32))])) st1 ?_
  refine own_st (T' := T1) (f' := (mkF m 66 #[(.val (.ref p0)), (.val (.int (1 : Int32)))] [])) (fun _ kont => XS.tswIn X1.here hx rfl (pc0 := 4) (pc' := 66) rfl (hb hby own_d1_4) rfl (o := 62) (by decide) (by decide) (by decide) (by decide) kont) ?_
  refine own_st (T' := T1) (f' := (mkF m 67 #[(.val (.ref p0)), (.val (.int (1 : Int32)))] [(.int (1 : Int32))])) (fun _ kont => XS.iconst X1.here hx rfl (hb hby own_d1_66) kont) ?_
  exact own_retN X1 hx hlk (t := .boolean) hret (by simp) (hb hby own_d1_67) ⟨rfl, rfl, e1⟩ (by decide) (by decide)
set_option maxRecDepth 65536 in
set_option maxHeartbeats 40000000 in
theorem own_rm0 (l : Launch) (Z : State) (a0 : Array Value) (hw : ∀ d ∈ tables_1, d.before a0 Z = true) (ws : List Jvm.Cond) (x0 : Int32) (x1 : Int32) (s_LaunchMode_STANDARD s_LaunchMode_SINGLE_TOP s_LaunchMode_SINGLE_TASK s_LaunchMode_SINGLE_INSTANCE s_LaunchMode_SINGLE_INSTANCE_PER_TASK : Addr) (h0 : Heap) (S_LaunchMode_STANDARD : Sta Z h0 "com/example/usher/usher/LaunchMode" "STANDARD" "Lcom/example/usher/usher/LaunchMode;" (.ref s_LaunchMode_STANDARD)) (E_LaunchMode_STANDARD : Exa Z h0 s_LaunchMode_STANDARD "com/example/usher/usher/LaunchMode") (S_LaunchMode_SINGLE_TOP : Sta Z h0 "com/example/usher/usher/LaunchMode" "SINGLE_TOP" "Lcom/example/usher/usher/LaunchMode;" (.ref s_LaunchMode_SINGLE_TOP)) (E_LaunchMode_SINGLE_TOP : Exa Z h0 s_LaunchMode_SINGLE_TOP "com/example/usher/usher/LaunchMode") (S_LaunchMode_SINGLE_TASK : Sta Z h0 "com/example/usher/usher/LaunchMode" "SINGLE_TASK" "Lcom/example/usher/usher/LaunchMode;" (.ref s_LaunchMode_SINGLE_TASK)) (E_LaunchMode_SINGLE_TASK : Exa Z h0 s_LaunchMode_SINGLE_TASK "com/example/usher/usher/LaunchMode") (S_LaunchMode_SINGLE_INSTANCE : Sta Z h0 "com/example/usher/usher/LaunchMode" "SINGLE_INSTANCE" "Lcom/example/usher/usher/LaunchMode;" (.ref s_LaunchMode_SINGLE_INSTANCE)) (E_LaunchMode_SINGLE_INSTANCE : Exa Z h0 s_LaunchMode_SINGLE_INSTANCE "com/example/usher/usher/LaunchMode") (S_LaunchMode_SINGLE_INSTANCE_PER_TASK : Sta Z h0 "com/example/usher/usher/LaunchMode" "SINGLE_INSTANCE_PER_TASK" "Lcom/example/usher/usher/LaunchMode;" (.ref s_LaunchMode_SINGLE_INSTANCE_PER_TASK)) (E_LaunchMode_SINGLE_INSTANCE_PER_TASK : Exa Z h0 s_LaunchMode_SINGLE_INSTANCE_PER_TASK "com/example/usher/usher/LaunchMode") (F_LaunchMode_STANDARD_ordinal : Fld Z h0 s_LaunchMode_STANDARD "java/lang/Enum" "ordinal" "I" (.int (0 : Int32))) (F_LaunchMode_STANDARD_keepsOneInstance : Fld Z h0 s_LaunchMode_STANDARD "com/example/usher/usher/LaunchMode" "keepsOneInstance" "Z" (.int (0 : Int32))) (F_LaunchMode_SINGLE_INSTANCE_PER_TASK_ordinal : Fld Z h0 s_LaunchMode_SINGLE_INSTANCE_PER_TASK "java/lang/Enum" "ordinal" "I" (.int (4 : Int32))) (F_LaunchMode_SINGLE_INSTANCE_PER_TASK_keepsOneInstance : Fld Z h0 s_LaunchMode_SINGLE_INSTANCE_PER_TASK "com/example/usher/usher/LaunchMode" "keepsOneInstance" "Z" (.int (1 : Int32))) (F_LaunchMode_SINGLE_TASK_ordinal : Fld Z h0 s_LaunchMode_SINGLE_TASK "java/lang/Enum" "ordinal" "I" (.int (2 : Int32))) (F_LaunchMode_SINGLE_INSTANCE_ordinal : Fld Z h0 s_LaunchMode_SINGLE_INSTANCE "java/lang/Enum" "ordinal" "I" (.int (3 : Int32))) (F_LaunchMode_SINGLE_INSTANCE_keepsOneInstance : Fld Z h0 s_LaunchMode_SINGLE_INSTANCE "com/example/usher/usher/LaunchMode" "keepsOneInstance" "Z" (.int (1 : Int32))) (F_LaunchMode_SINGLE_TOP_ordinal : Fld Z h0 s_LaunchMode_SINGLE_TOP "java/lang/Enum" "ordinal" "I" (.int (1 : Int32))) (F_LaunchMode_SINGLE_TOP_keepsOneInstance : Fld Z h0 s_LaunchMode_SINGLE_TOP "com/example/usher/usher/LaunchMode" "keepsOneInstance" "Z" (.int (0 : Int32))) (F_LaunchMode_SINGLE_TASK_keepsOneInstance : Fld Z h0 s_LaunchMode_SINGLE_TASK "com/example/usher/usher/LaunchMode" "keepsOneInstance" "Z" (.int (1 : Int32))) :
    own_C0 l x code maxLocals ret ws room_1 Z h0 #[(.int x0), (.int x1)] (fun v h L => v = some (.int (1 : Int32)) ∧ Fr h0.size L) 16 128 := by
  refine own_body own_pn0 ?_
  intro p e s m below meth c s₁ hx hby hml hZ hown hnm hret hlk X0 e0
  refine own_cast (f' := (mkF m 0 #[(.val (.int x0)), (.val (.int x1)), .unset, .unset, .unset, .unset, .unset, .unset] [])) (by first | (simp [entryFrame, mkF, argsToLocals, Value.category, maxLocals]; done) | rfl) ?_
  refine own_st (T' := s₁) (f' := (mkF m 1 #[(.val (.int x0)), (.val (.int x1)), .unset, .unset, .unset, .unset, .unset, .unset] [(.int (5 : Int32))])) (fun _ kont => XS.iconst X0.here hx rfl (hb hby at_0) kont) ?_
  obtain ⟨T1, h1, k1, X1, e1, E1, A1, O1, st1⟩ := newR X0 hx hZ hown (hw _ (List.mem_of_getElem? (i := 0) rfl)) (hw _ (List.mem_of_getElem? (i := 1) rfl)) e0 (g := (mkF m 1 #[(.val (.int x0)), (.val (.int x1)), .unset, .unset, .unset, .unset, .unset, .unset] [(.int (5 : Int32))])) rfl (hb hby at_1) rfl (by decide) (cap := 5) (by decide) (by decide) (by decide) (by decide)
  obtain ⟨b1, g1⟩ : ∃ z, z = h0.size := ⟨_, rfl⟩
  rw [← g1] at A1 st1
  have V1 : Arv Z h1 b1 k1 (.object "com/example/usher/usher/LaunchMode") (5 : Int32) [.null, .null, .null, .null, .null] .null := (Arv.new A1 (by decide)).pad (pad_rep [] .null 5)
  have EX1 : Ext h0 h1 := E1
  have z_b1 : h0.size ≤ b1 := Nat.le_of_eq g1.symm
  refine own_st (T' := T1) (f' := (mkF m 4 #[(.val (.int x0)), (.val (.int x1)), .unset, .unset, .unset, .unset, .unset, .unset] [(.ref b1)])) st1 ?_
  refine own_st (T' := T1) (f' := (mkF m 5 #[(.val (.int x0)), (.val (.int x1)), .unset, .unset, .unset, .unset, .unset, .unset] [(.ref b1), (.ref b1)])) (fun _ kont => XS.dup X1.here hx rfl (hb hby at_4) rfl rfl kont) ?_
  refine own_st (T' := T1) (f' := (mkF m 6 #[(.val (.int x0)), (.val (.int x1)), .unset, .unset, .unset, .unset, .unset, .unset] [(.int (0 : Int32)), (.ref b1), (.ref b1)])) (fun _ kont => XS.iconst X1.here hx rfl (hb hby at_5) kont) ?_
  obtain ⟨T2, X2, e2, st2⟩ := getS2 X1 hx hZ hown (host := "") (Or.inl (hw _ (List.mem_of_getElem? (i := 2) rfl))) Via.refl e1 (S_LaunchMode_STANDARD.ext EX1) (g := (mkF m 6 #[(.val (.int x0)), (.val (.int x1)), .unset, .unset, .unset, .unset, .unset, .unset] [(.int (0 : Int32)), (.ref b1), (.ref b1)])) rfl (hb hby at_6)
  refine own_st (T' := T2) (f' := (mkF m 9 #[(.val (.int x0)), (.val (.int x1)), .unset, .unset, .unset, .unset, .unset, .unset] [(.ref s_LaunchMode_STANDARD), (.int (0 : Int32)), (.ref b1), (.ref b1)])) st2 ?_
  obtain ⟨cl3, Ar3, q3, S3, N3, H3, G3⟩ := V1
  obtain ⟨T3, h3, X3, e3, W3, st3⟩ := stR X2 hx hZ e2 Ar3 (j := (0 : Int32)) (inb_of S3 ⟨by decide, by decide⟩) rfl (Sto.ofV Ar3 q3 O1 (Ins.self (E_LaunchMode_STANDARD.ext EX1))) (g := (mkF m 9 #[(.val (.int x0)), (.val (.int x1)), .unset, .unset, .unset, .unset, .unset, .unset] [(.ref s_LaunchMode_STANDARD), (.int (0 : Int32)), (.ref b1), (.ref b1)])) rfl rfl (hb hby at_9)
  have V3 : Arv Z h3 b1 k1 (.object "com/example/usher/usher/LaunchMode") (5 : Int32) [(.ref s_LaunchMode_STANDARD), .null, .null, .null, .null] .null := Arv.set Ar3 q3 S3 N3 H3 G3 rfl W3 0 rfl (Nat.le_of_ble_eq_true rfl)
  have EX3 : Ext h0 h3 := own_extW EX1 W3 z_b1
  have N_3 := Fr.snoc X3 (Fr.nil _) z_b1
  refine own_st (T' := T3) (f' := (mkF m 10 #[(.val (.int x0)), (.val (.int x1)), .unset, .unset, .unset, .unset, .unset, .unset] [(.ref b1)])) st3 ?_
  refine own_st (T' := T3) (f' := (mkF m 11 #[(.val (.int x0)), (.val (.int x1)), .unset, .unset, .unset, .unset, .unset, .unset] [(.ref b1), (.ref b1)])) (fun _ kont => XS.dup X3.here hx rfl (hb hby at_10) rfl rfl kont) ?_
  refine own_st (T' := T3) (f' := (mkF m 12 #[(.val (.int x0)), (.val (.int x1)), .unset, .unset, .unset, .unset, .unset, .unset] [(.int (1 : Int32)), (.ref b1), (.ref b1)])) (fun _ kont => XS.iconst X3.here hx rfl (hb hby at_11) kont) ?_
  obtain ⟨T4, X4, e4, st4⟩ := getS2 X3 hx hZ hown (host := "") (Or.inl (hw _ (List.mem_of_getElem? (i := 6) rfl))) Via.refl e3 (S_LaunchMode_SINGLE_TOP.ext EX3) (g := (mkF m 12 #[(.val (.int x0)), (.val (.int x1)), .unset, .unset, .unset, .unset, .unset, .unset] [(.int (1 : Int32)), (.ref b1), (.ref b1)])) rfl (hb hby at_12)
  refine own_st (T' := T4) (f' := (mkF m 15 #[(.val (.int x0)), (.val (.int x1)), .unset, .unset, .unset, .unset, .unset, .unset] [(.ref s_LaunchMode_SINGLE_TOP), (.int (1 : Int32)), (.ref b1), (.ref b1)])) st4 ?_
  obtain ⟨cl5, Ar5, q5, S5, N5, H5, G5⟩ := V3
  obtain ⟨T5, h5, X5, e5, W5, st5⟩ := stR X4 hx hZ e4 Ar5 (j := (1 : Int32)) (inb_of S5 ⟨by decide, by decide⟩) rfl (Sto.ofV Ar5 q5 O1 (Ins.self (E_LaunchMode_SINGLE_TOP.ext EX3))) (g := (mkF m 15 #[(.val (.int x0)), (.val (.int x1)), .unset, .unset, .unset, .unset, .unset, .unset] [(.ref s_LaunchMode_SINGLE_TOP), (.int (1 : Int32)), (.ref b1), (.ref b1)])) rfl rfl (hb hby at_15)
  have V5 : Arv Z h5 b1 k1 (.object "com/example/usher/usher/LaunchMode") (5 : Int32) [(.ref s_LaunchMode_STANDARD), (.ref s_LaunchMode_SINGLE_TOP), .null, .null, .null] .null := Arv.set Ar5 q5 S5 N5 H5 G5 rfl W5 1 rfl (Nat.le_of_ble_eq_true rfl)
  have EX5 : Ext h0 h5 := own_extW EX3 W5 z_b1
  have N_5 := Fr.snoc X5 N_3 z_b1
  refine own_st (T' := T5) (f' := (mkF m 16 #[(.val (.int x0)), (.val (.int x1)), .unset, .unset, .unset, .unset, .unset, .unset] [(.ref b1)])) st5 ?_
  refine own_st (T' := T5) (f' := (mkF m 17 #[(.val (.int x0)), (.val (.int x1)), .unset, .unset, .unset, .unset, .unset, .unset] [(.ref b1), (.ref b1)])) (fun _ kont => XS.dup X5.here hx rfl (hb hby at_16) rfl rfl kont) ?_
  refine own_st (T' := T5) (f' := (mkF m 18 #[(.val (.int x0)), (.val (.int x1)), .unset, .unset, .unset, .unset, .unset, .unset] [(.int (2 : Int32)), (.ref b1), (.ref b1)])) (fun _ kont => XS.iconst X5.here hx rfl (hb hby at_17) kont) ?_
  obtain ⟨T6, X6, e6, st6⟩ := getS2 X5 hx hZ hown (host := "") (Or.inl (hw _ (List.mem_of_getElem? (i := 8) rfl))) Via.refl e5 (S_LaunchMode_SINGLE_TASK.ext EX5) (g := (mkF m 18 #[(.val (.int x0)), (.val (.int x1)), .unset, .unset, .unset, .unset, .unset, .unset] [(.int (2 : Int32)), (.ref b1), (.ref b1)])) rfl (hb hby at_18)
  refine own_st (T' := T6) (f' := (mkF m 21 #[(.val (.int x0)), (.val (.int x1)), .unset, .unset, .unset, .unset, .unset, .unset] [(.ref s_LaunchMode_SINGLE_TASK), (.int (2 : Int32)), (.ref b1), (.ref b1)])) st6 ?_
  obtain ⟨cl7, Ar7, q7, S7, N7, H7, G7⟩ := V5
  obtain ⟨T7, h7, X7, e7, W7, st7⟩ := stR X6 hx hZ e6 Ar7 (j := (2 : Int32)) (inb_of S7 ⟨by decide, by decide⟩) rfl (Sto.ofV Ar7 q7 O1 (Ins.self (E_LaunchMode_SINGLE_TASK.ext EX5))) (g := (mkF m 21 #[(.val (.int x0)), (.val (.int x1)), .unset, .unset, .unset, .unset, .unset, .unset] [(.ref s_LaunchMode_SINGLE_TASK), (.int (2 : Int32)), (.ref b1), (.ref b1)])) rfl rfl (hb hby at_21)
  have V7 : Arv Z h7 b1 k1 (.object "com/example/usher/usher/LaunchMode") (5 : Int32) [(.ref s_LaunchMode_STANDARD), (.ref s_LaunchMode_SINGLE_TOP), (.ref s_LaunchMode_SINGLE_TASK), .null, .null] .null := Arv.set Ar7 q7 S7 N7 H7 G7 rfl W7 2 rfl (Nat.le_of_ble_eq_true rfl)
  have EX7 : Ext h0 h7 := own_extW EX5 W7 z_b1
  have N_7 := Fr.snoc X7 N_5 z_b1
  refine own_st (T' := T7) (f' := (mkF m 22 #[(.val (.int x0)), (.val (.int x1)), .unset, .unset, .unset, .unset, .unset, .unset] [(.ref b1)])) st7 ?_
  refine own_st (T' := T7) (f' := (mkF m 23 #[(.val (.int x0)), (.val (.int x1)), .unset, .unset, .unset, .unset, .unset, .unset] [(.ref b1), (.ref b1)])) (fun _ kont => XS.dup X7.here hx rfl (hb hby at_22) rfl rfl kont) ?_
  refine own_st (T' := T7) (f' := (mkF m 24 #[(.val (.int x0)), (.val (.int x1)), .unset, .unset, .unset, .unset, .unset, .unset] [(.int (3 : Int32)), (.ref b1), (.ref b1)])) (fun _ kont => XS.iconst X7.here hx rfl (hb hby at_23) kont) ?_
  obtain ⟨T8, X8, e8, st8⟩ := getS2 X7 hx hZ hown (host := "") (Or.inl (hw _ (List.mem_of_getElem? (i := 10) rfl))) Via.refl e7 (S_LaunchMode_SINGLE_INSTANCE.ext EX7) (g := (mkF m 24 #[(.val (.int x0)), (.val (.int x1)), .unset, .unset, .unset, .unset, .unset, .unset] [(.int (3 : Int32)), (.ref b1), (.ref b1)])) rfl (hb hby at_24)
  refine own_st (T' := T8) (f' := (mkF m 27 #[(.val (.int x0)), (.val (.int x1)), .unset, .unset, .unset, .unset, .unset, .unset] [(.ref s_LaunchMode_SINGLE_INSTANCE), (.int (3 : Int32)), (.ref b1), (.ref b1)])) st8 ?_
  obtain ⟨cl9, Ar9, q9, S9, N9, H9, G9⟩ := V7
  obtain ⟨T9, h9, X9, e9, W9, st9⟩ := stR X8 hx hZ e8 Ar9 (j := (3 : Int32)) (inb_of S9 ⟨by decide, by decide⟩) rfl (Sto.ofV Ar9 q9 O1 (Ins.self (E_LaunchMode_SINGLE_INSTANCE.ext EX7))) (g := (mkF m 27 #[(.val (.int x0)), (.val (.int x1)), .unset, .unset, .unset, .unset, .unset, .unset] [(.ref s_LaunchMode_SINGLE_INSTANCE), (.int (3 : Int32)), (.ref b1), (.ref b1)])) rfl rfl (hb hby at_27)
  have V9 : Arv Z h9 b1 k1 (.object "com/example/usher/usher/LaunchMode") (5 : Int32) [(.ref s_LaunchMode_STANDARD), (.ref s_LaunchMode_SINGLE_TOP), (.ref s_LaunchMode_SINGLE_TASK), (.ref s_LaunchMode_SINGLE_INSTANCE), .null] .null := Arv.set Ar9 q9 S9 N9 H9 G9 rfl W9 3 rfl (Nat.le_of_ble_eq_true rfl)
  have EX9 : Ext h0 h9 := own_extW EX7 W9 z_b1
  have N_9 := Fr.snoc X9 N_7 z_b1
  refine own_st (T' := T9) (f' := (mkF m 28 #[(.val (.int x0)), (.val (.int x1)), .unset, .unset, .unset, .unset, .unset, .unset] [(.ref b1)])) st9 ?_
  refine own_st (T' := T9) (f' := (mkF m 29 #[(.val (.int x0)), (.val (.int x1)), .unset, .unset, .unset, .unset, .unset, .unset] [(.ref b1), (.ref b1)])) (fun _ kont => XS.dup X9.here hx rfl (hb hby at_28) rfl rfl kont) ?_
  refine own_st (T' := T9) (f' := (mkF m 30 #[(.val (.int x0)), (.val (.int x1)), .unset, .unset, .unset, .unset, .unset, .unset] [(.int (4 : Int32)), (.ref b1), (.ref b1)])) (fun _ kont => XS.iconst X9.here hx rfl (hb hby at_29) kont) ?_
  obtain ⟨T10, X10, e10, st10⟩ := getS2 X9 hx hZ hown (host := "") (Or.inl (hw _ (List.mem_of_getElem? (i := 12) rfl))) Via.refl e9 (S_LaunchMode_SINGLE_INSTANCE_PER_TASK.ext EX9) (g := (mkF m 30 #[(.val (.int x0)), (.val (.int x1)), .unset, .unset, .unset, .unset, .unset, .unset] [(.int (4 : Int32)), (.ref b1), (.ref b1)])) rfl (hb hby at_30)
  refine own_st (T' := T10) (f' := (mkF m 33 #[(.val (.int x0)), (.val (.int x1)), .unset, .unset, .unset, .unset, .unset, .unset] [(.ref s_LaunchMode_SINGLE_INSTANCE_PER_TASK), (.int (4 : Int32)), (.ref b1), (.ref b1)])) st10 ?_
  obtain ⟨cl11, Ar11, q11, S11, N11, H11, G11⟩ := V9
  obtain ⟨T11, h11, X11, e11, W11, st11⟩ := stR X10 hx hZ e10 Ar11 (j := (4 : Int32)) (inb_of S11 ⟨by decide, by decide⟩) rfl (Sto.ofV Ar11 q11 O1 (Ins.self (E_LaunchMode_SINGLE_INSTANCE_PER_TASK.ext EX9))) (g := (mkF m 33 #[(.val (.int x0)), (.val (.int x1)), .unset, .unset, .unset, .unset, .unset, .unset] [(.ref s_LaunchMode_SINGLE_INSTANCE_PER_TASK), (.int (4 : Int32)), (.ref b1), (.ref b1)])) rfl rfl (hb hby at_33)
  have V11 : Arv Z h11 b1 k1 (.object "com/example/usher/usher/LaunchMode") (5 : Int32) [(.ref s_LaunchMode_STANDARD), (.ref s_LaunchMode_SINGLE_TOP), (.ref s_LaunchMode_SINGLE_TASK), (.ref s_LaunchMode_SINGLE_INSTANCE), (.ref s_LaunchMode_SINGLE_INSTANCE_PER_TASK)] .null := Arv.set Ar11 q11 S11 N11 H11 G11 rfl W11 4 rfl (Nat.le_of_ble_eq_true rfl)
  have EX11 : Ext h0 h11 := own_extW EX9 W11 z_b1
  have N_11 := Fr.snoc X11 N_9 z_b1
  refine own_st (T' := T11) (f' := (mkF m 34 #[(.val (.int x0)), (.val (.int x1)), .unset, .unset, .unset, .unset, .unset, .unset] [(.ref b1)])) st11 ?_
  refine own_st (T' := T11) (f' := (mkF m 35 #[(.val (.int x0)), (.val (.int x1)), (.val (.ref b1)), .unset, .unset, .unset, .unset, .unset] [])) (fun _ kont => XS.astoreN X11.here hx rfl (hb hby at_34) rfl rfl (l' := #[(.val (.int x0)), (.val (.int x1)), (.val (.ref b1)), .unset, .unset, .unset, .unset, .unset]) rfl kont) ?_
  refine own_st (T' := T11) (f' := (mkF m 36 #[(.val (.int x0)), (.val (.int x1)), (.val (.ref b1)), .unset, .unset, .unset, .unset, .unset] [(.ref b1)])) (fun _ kont => XS.aloadN X11.here hx rfl (hb hby at_35) rfl rfl kont) ?_
  refine own_st (T' := T11) (f' := (mkF m 37 #[(.val (.int x0)), (.val (.int x1)), (.val (.ref b1)), .unset, .unset, .unset, .unset, .unset] [(.int x0), (.ref b1)])) (fun _ kont => XS.iloadN X11.here hx rfl (hb hby at_36) rfl kont) ?_
  refine own_st (T' := T11) (f' := (mkF m 39 #[(.val (.int x0)), (.val (.int x1)), (.val (.ref b1)), .unset, .unset, .unset, .unset, .unset] [(.int (2147483647 : Int32)), (.int x0), (.ref b1)])) (fun _ kont => X11.ldcInt hx hown (mvT hZ (hw _ (List.mem_of_getElem? (i := 14) rfl))) (g := (mkF m 37 #[(.val (.int x0)), (.val (.int x1)), (.val (.ref b1)), .unset, .unset, .unset, .unset, .unset] [(.int x0), (.ref b1)])) rfl (hb hby at_37) _ kont) ?_
  refine own_st (T' := T11) (f' := (mkF m 40 #[(.val (.int x0)), (.val (.int x1)), (.val (.ref b1)), .unset, .unset, .unset, .unset, .unset] [(.int (x0 &&& (2147483647 : Int32))), (.ref b1)])) (fun _ kont => XS.iand X11.here hx rfl (hb hby at_39) rfl kont) ?_
  refine own_st (T' := T11) (f' := (mkF m 41 #[(.val (.int x0)), (.val (.int x1)), (.val (.ref b1)), .unset, .unset, .unset, .unset, .unset] [(.int (5 : Int32)), (.int (x0 &&& (2147483647 : Int32))), (.ref b1)])) (fun _ kont => XS.iconst X11.here hx rfl (hb hby at_40) kont) ?_
  refine own_st (T' := T11) (f' := (mkF m 42 #[(.val (.int x0)), (.val (.int x1)), (.val (.ref b1)), .unset, .unset, .unset, .unset, .unset] [(.int ((x0 &&& (2147483647 : Int32)) % (5 : Int32))), (.ref b1)])) (fun _ kont => iremM X11 hx rfl (hb hby at_41) rfl (by decide) kont) ?_
  obtain ⟨i, h_i⟩ : ∃ z, z = ((x0 &&& (2147483647 : Int32)) % (5 : Int32)) := ⟨_, rfl⟩
  rw [← h_i]
  rcases own_cases5 i (h_i ▸ own_mod5 x0) with rfl | rfl | rfl | rfl | rfl
  · skip  -- i = 0
    obtain ⟨cl12, Ar12, q12, S12, N12, H12, G12⟩ := V11
    have hin12 : ¬ ((0 : Int32) < 0 ∨ cl12.slots.size ≤ ((0 : Int32)).toNatClampNeg) := inb_of S12 ⟨by decide, by decide⟩
    refine own_st (T' := T11) (f' := (mkF m 43 #[(.val (.int x0)), (.val (.int x1)), (.val (.ref b1)), .unset, .unset, .unset, .unset, .unset] [(.ref s_LaunchMode_STANDARD)])) (fun _ kont => X11.aaload hx (j := (0 : Int32)) (v := (.ref s_LaunchMode_STANDARD)) (by rw [e11]; exact Ar12.1) (State.isArrayOf_alike hZ.alike Ar12.2.1) rfl Ar12.2.2 hin12 (Has.at H12 hin12 rfl) (g := (mkF m 42 #[(.val (.int x0)), (.val (.int x1)), (.val (.ref b1)), .unset, .unset, .unset, .unset, .unset] [(.int (0 : Int32)), (.ref b1)])) rfl rfl (hb hby at_42) _ kont) ?_
    refine own_st (T' := T11) (f' := (mkF m 44 #[(.val (.int x0)), (.val (.int x1)), (.val (.ref b1)), (.val (.ref s_LaunchMode_STANDARD)), .unset, .unset, .unset, .unset] [])) (fun _ kont => XS.astoreN X11.here hx rfl (hb hby at_43) rfl rfl (l' := #[(.val (.int x0)), (.val (.int x1)), (.val (.ref b1)), (.val (.ref s_LaunchMode_STANDARD)), .unset, .unset, .unset, .unset]) rfl kont) ?_
    refine own_st (T' := T11) (f' := (mkF m 45 #[(.val (.int x0)), (.val (.int x1)), (.val (.ref b1)), (.val (.ref s_LaunchMode_STANDARD)), .unset, .unset, .unset, .unset] [(.int x1)])) (fun _ kont => XS.iloadN X11.here hx rfl (hb hby at_44) rfl kont) ?_
    refine own_st (T' := T11) (f' := (mkF m 46 #[(.val (.int x0)), (.val (.int x1)), (.val (.ref b1)), (.val (.ref s_LaunchMode_STANDARD)), .unset, .unset, .unset, .unset] [(.int (1 : Int32)), (.int x1)])) (fun _ kont => XS.iconst X11.here hx rfl (hb hby at_45) kont) ?_
    refine own_st (T' := T11) (f' := (mkF m 47 #[(.val (.int x0)), (.val (.int x1)), (.val (.ref b1)), (.val (.ref s_LaunchMode_STANDARD)), .unset, .unset, .unset, .unset] [(.int (x1 &&& (1 : Int32)))])) (fun _ kont => XS.iand X11.here hx rfl (hb hby at_46) rfl kont) ?_
    by_cases c0 : (x1 &&& (1 : Int32)) = (0 : Int32)
    · refine own_st (T' := T11) (f' := (mkF m 54 #[(.val (.int x0)), (.val (.int x1)), (.val (.ref b1)), (.val (.ref s_LaunchMode_STANDARD)), .unset, .unset, .unset, .unset] [])) (fun _ kont => XS.ifYes X11.here hx rfl (pc0 := 47) (pc' := 54) rfl (hb hby at_47) rfl ((if0 _ _).trans (teq c0).1) (by decide) (by decide) kont) ?_
      refine own_st (T' := T11) (f' := (mkF m 55 #[(.val (.int x0)), (.val (.int x1)), (.val (.ref b1)), (.val (.ref s_LaunchMode_STANDARD)), .unset, .unset, .unset, .unset] [(.int (0 : Int32))])) (fun _ kont => XS.iconst X11.here hx rfl (hb hby at_54) kont) ?_
      refine own_st (T' := T11) (f' := (mkF m 57 #[(.val (.int x0)), (.val (.int x1)), (.val (.ref b1)), (.val (.ref s_LaunchMode_STANDARD)), (.val (.int (0 : Int32))), .unset, .unset, .unset] [])) (fun _ kont => XS.istore X11.here hx rfl (hb hby at_55) rfl (l' := #[(.val (.int x0)), (.val (.int x1)), (.val (.ref b1)), (.val (.ref s_LaunchMode_STANDARD)), (.val (.int (0 : Int32))), .unset, .unset, .unset]) rfl kont) ?_
      refine own_st (T' := T11) (f' := (mkF m 58 #[(.val (.int x0)), (.val (.int x1)), (.val (.ref b1)), (.val (.ref s_LaunchMode_STANDARD)), (.val (.int (0 : Int32))), .unset, .unset, .unset] [(.ref s_LaunchMode_STANDARD)])) (fun _ kont => XS.aloadN X11.here hx rfl (hb hby at_57) rfl rfl kont) ?_
      refine own_st (T' := T11) (f' := (mkF m 60 #[(.val (.int x0)), (.val (.int x1)), (.val (.ref b1)), (.val (.ref s_LaunchMode_STANDARD)), (.val (.int (0 : Int32))), .unset, .unset, .unset] [(.int (0 : Int32)), (.ref s_LaunchMode_STANDARD)])) (fun _ kont => XS.iload X11.here hx rfl (hb hby at_58) rfl kont) ?_
      obtain ⟨v13, T13, L13, hQ13, X13, st13⟩ := own_callV X11 hx hZ e11 hown (hw _ (List.mem_of_getElem? (i := 15) rfl)) (hw _ (List.mem_of_getElem? (i := 16) rfl)) (hw _ (List.mem_of_getElem? (i := 18) rfl)) (hw _ (List.mem_of_getElem? (i := 17) rfl)) (by decide) (b := s_LaunchMode_STANDARD) (E_LaunchMode_STANDARD.ext EX11) (hw _ (List.mem_of_getElem? (i := 19) rfl)) (hw _ (List.mem_of_getElem? (i := 3) rfl)) (own_k1_1 l Z a0 hw s_LaunchMode_STANDARD h11 (E_LaunchMode_STANDARD.ext EX11) (F_LaunchMode_STANDARD_ordinal.ext EX11)) (g := (mkF m 60 #[(.val (.int x0)), (.val (.int x1)), (.val (.ref b1)), (.val (.ref s_LaunchMode_STANDARD)), (.val (.int (0 : Int32))), .unset, .unset, .unset] [(.int (0 : Int32)), (.ref s_LaunchMode_STANDARD)])) rfl (by rw [hml]; rfl) rfl (argsL := [(.int (0 : Int32))]) (rest := []) rfl (lenOf own_pd2 rfl) rfl (hb hby at_60) (Nat.le_of_ble_eq_true rfl) (Nat.le_of_ble_eq_true rfl) (Nat.le_of_ble_eq_true rfl) (Nat.le_of_ble_eq_true rfl)
      obtain ⟨rfl, rfl, e13⟩ := hQ13
      rw [List.append_nil] at X13
      refine own_st (T' := T13) (f' := (mkF m 63 #[(.val (.int x0)), (.val (.int x1)), (.val (.ref b1)), (.val (.ref s_LaunchMode_STANDARD)), (.val (.int (0 : Int32))), .unset, .unset, .unset] [(.int (0 : Int32))])) st13 ?_
      refine own_st (T' := T13) (f' := (mkF m 65 #[(.val (.int x0)), (.val (.int x1)), (.val (.ref b1)), (.val (.ref s_LaunchMode_STANDARD)), (.val (.int (0 : Int32))), (.val (.int (0 : Int32))), .unset, .unset] [])) (fun _ kont => XS.istore X13.here hx rfl (hb hby at_63) rfl (l' := #[(.val (.int x0)), (.val (.int x1)), (.val (.ref b1)), (.val (.ref s_LaunchMode_STANDARD)), (.val (.int (0 : Int32))), (.val (.int (0 : Int32))), .unset, .unset]) rfl kont) ?_
      refine own_st (T' := T13) (f' := (mkF m 66 #[(.val (.int x0)), (.val (.int x1)), (.val (.ref b1)), (.val (.ref s_LaunchMode_STANDARD)), (.val (.int (0 : Int32))), (.val (.int (0 : Int32))), .unset, .unset] [(.ref s_LaunchMode_STANDARD)])) (fun _ kont => XS.aloadN X13.here hx rfl (hb hby at_65) rfl rfl kont) ?_
      obtain ⟨v14, T14, L14, hQ14, X14, st14⟩ := own_callV X13 hx hZ e13 hown (hw _ (List.mem_of_getElem? (i := 29) rfl)) (hw _ (List.mem_of_getElem? (i := 30) rfl)) (hw _ (List.mem_of_getElem? (i := 32) rfl)) (hw _ (List.mem_of_getElem? (i := 31) rfl)) (by decide) (b := s_LaunchMode_STANDARD) (E_LaunchMode_STANDARD.ext EX11) (hw _ (List.mem_of_getElem? (i := 33) rfl)) (hw _ (List.mem_of_getElem? (i := 3) rfl)) (own_k3_3 l Z a0 hw s_LaunchMode_STANDARD h11 (F_LaunchMode_STANDARD_keepsOneInstance.ext EX11)) (g := (mkF m 66 #[(.val (.int x0)), (.val (.int x1)), (.val (.ref b1)), (.val (.ref s_LaunchMode_STANDARD)), (.val (.int (0 : Int32))), (.val (.int (0 : Int32))), .unset, .unset] [(.ref s_LaunchMode_STANDARD)])) rfl (by rw [hml]; rfl) rfl (argsL := []) (rest := []) rfl (lenOf own_pd1 rfl) rfl (hb hby at_66) (Nat.le_of_ble_eq_true rfl) (Nat.le_of_ble_eq_true rfl) (Nat.le_of_ble_eq_true rfl) (Nat.le_of_ble_eq_true rfl)
      obtain ⟨rfl, rfl, e14⟩ := hQ14
      rw [List.append_nil] at X14
      refine own_st (T' := T14) (f' := (mkF m 69 #[(.val (.int x0)), (.val (.int x1)), (.val (.ref b1)), (.val (.ref s_LaunchMode_STANDARD)), (.val (.int (0 : Int32))), (.val (.int (0 : Int32))), .unset, .unset] [(.int (0 : Int32))])) st14 ?_
      refine own_st (T' := T14) (f' := (mkF m 71 #[(.val (.int x0)), (.val (.int x1)), (.val (.ref b1)), (.val (.ref s_LaunchMode_STANDARD)), (.val (.int (0 : Int32))), (.val (.int (0 : Int32))), (.val (.int (0 : Int32))), .unset] [])) (fun _ kont => XS.istore X14.here hx rfl (hb hby at_69) rfl (l' := #[(.val (.int x0)), (.val (.int x1)), (.val (.ref b1)), (.val (.ref s_LaunchMode_STANDARD)), (.val (.int (0 : Int32))), (.val (.int (0 : Int32))), (.val (.int (0 : Int32))), .unset]) rfl kont) ?_
      refine own_st (T' := T14) (f' := (mkF m 73 #[(.val (.int x0)), (.val (.int x1)), (.val (.ref b1)), (.val (.ref s_LaunchMode_STANDARD)), (.val (.int (0 : Int32))), (.val (.int (0 : Int32))), (.val (.int (0 : Int32))), .unset] [(.int (0 : Int32))])) (fun _ kont => XS.iload X14.here hx rfl (hb hby at_71) rfl kont) ?_
      refine own_st (T' := T14) (f' := (mkF m 76 #[(.val (.int x0)), (.val (.int x1)), (.val (.ref b1)), (.val (.ref s_LaunchMode_STANDARD)), (.val (.int (0 : Int32))), (.val (.int (0 : Int32))), (.val (.int (0 : Int32))), .unset] [])) (fun _ kont => XS.ifNo X14.here hx rfl (hb hby at_73) rfl ((if0 _ _).trans (teq (by decide : (0 : Int32) = (0 : Int32))).2) kont) ?_
      refine own_st (T' := T14) (f' := (mkF m 78 #[(.val (.int x0)), (.val (.int x1)), (.val (.ref b1)), (.val (.ref s_LaunchMode_STANDARD)), (.val (.int (0 : Int32))), (.val (.int (0 : Int32))), (.val (.int (0 : Int32))), .unset] [(.int (0 : Int32))])) (fun _ kont => XS.iload X14.here hx rfl (hb hby at_76) rfl kont) ?_
      refine own_st (T' := T14) (f' := (mkF m 80 #[(.val (.int x0)), (.val (.int x1)), (.val (.ref b1)), (.val (.ref s_LaunchMode_STANDARD)), (.val (.int (0 : Int32))), (.val (.int (0 : Int32))), (.val (.int (0 : Int32))), (.val (.int (0 : Int32)))] [])) (fun _ kont => XS.istore X14.here hx rfl (hb hby at_78) rfl (l' := #[(.val (.int x0)), (.val (.int x1)), (.val (.ref b1)), (.val (.ref s_LaunchMode_STANDARD)), (.val (.int (0 : Int32))), (.val (.int (0 : Int32))), (.val (.int (0 : Int32))), (.val (.int (0 : Int32)))]) rfl kont) ?_
      refine own_st (T' := T14) (f' := (mkF m 102 #[(.val (.int x0)), (.val (.int x1)), (.val (.ref b1)), (.val (.ref s_LaunchMode_STANDARD)), (.val (.int (0 : Int32))), (.val (.int (0 : Int32))), (.val (.int (0 : Int32))), (.val (.int (0 : Int32)))] [])) (fun _ kont => XS.goto X14.here hx rfl (pc0 := 80) (pc' := 102) rfl (hb hby at_80) (by decide) (by decide) kont) ?_
      refine own_st (T' := T14) (f' := (mkF m 104 #[(.val (.int x0)), (.val (.int x1)), (.val (.ref b1)), (.val (.ref s_LaunchMode_STANDARD)), (.val (.int (0 : Int32))), (.val (.int (0 : Int32))), (.val (.int (0 : Int32))), (.val (.int (0 : Int32)))] [(.int (0 : Int32))])) (fun _ kont => XS.iload X14.here hx rfl (hb hby at_102) rfl kont) ?_
      refine own_st (T' := T14) (f' := (mkF m 106 #[(.val (.int x0)), (.val (.int x1)), (.val (.ref b1)), (.val (.ref s_LaunchMode_STANDARD)), (.val (.int (0 : Int32))), (.val (.int (0 : Int32))), (.val (.int (0 : Int32))), (.val (.int (0 : Int32)))] [(.int (0 : Int32)), (.int (0 : Int32))])) (fun _ kont => XS.iload X14.here hx rfl (hb hby at_104) rfl kont) ?_
      refine own_st (T' := T14) (f' := (mkF m 109 #[(.val (.int x0)), (.val (.int x1)), (.val (.ref b1)), (.val (.ref s_LaunchMode_STANDARD)), (.val (.int (0 : Int32))), (.val (.int (0 : Int32))), (.val (.int (0 : Int32))), (.val (.int (0 : Int32)))] [])) (fun _ kont => XS.icmpNo X14.here hx rfl (hb hby at_106) rfl (teq (by decide : (0 : Int32) = (0 : Int32))).2 kont) ?_
      refine own_st (T' := T14) (f' := (mkF m 110 #[(.val (.int x0)), (.val (.int x1)), (.val (.ref b1)), (.val (.ref s_LaunchMode_STANDARD)), (.val (.int (0 : Int32))), (.val (.int (0 : Int32))), (.val (.int (0 : Int32))), (.val (.int (0 : Int32)))] [(.int (1 : Int32))])) (fun _ kont => XS.iconst X14.here hx rfl (hb hby at_109) kont) ?_
      refine own_st (T' := T14) (f' := (mkF m 114 #[(.val (.int x0)), (.val (.int x1)), (.val (.ref b1)), (.val (.ref s_LaunchMode_STANDARD)), (.val (.int (0 : Int32))), (.val (.int (0 : Int32))), (.val (.int (0 : Int32))), (.val (.int (0 : Int32)))] [(.int (1 : Int32))])) (fun _ kont => XS.goto X14.here hx rfl (pc0 := 110) (pc' := 114) rfl (hb hby at_110) (by decide) (by decide) kont) ?_
      exact own_retN X14 hx hlk (t := .boolean) hret (by simp) (hb hby at_114) ⟨rfl, N_11⟩ (by decide) (by decide)
    · refine own_st (T' := T11) (f' := (mkF m 50 #[(.val (.int x0)), (.val (.int x1)), (.val (.ref b1)), (.val (.ref s_LaunchMode_STANDARD)), .unset, .unset, .unset, .unset] [])) (fun _ kont => XS.ifNo X11.here hx rfl (hb hby at_47) rfl ((if0 _ _).trans (feq c0).1) kont) ?_
      refine own_st (T' := T11) (f' := (mkF m 51 #[(.val (.int x0)), (.val (.int x1)), (.val (.ref b1)), (.val (.ref s_LaunchMode_STANDARD)), .unset, .unset, .unset, .unset] [(.int (1 : Int32))])) (fun _ kont => XS.iconst X11.here hx rfl (hb hby at_50) kont) ?_
      refine own_st (T' := T11) (f' := (mkF m 55 #[(.val (.int x0)), (.val (.int x1)), (.val (.ref b1)), (.val (.ref s_LaunchMode_STANDARD)), .unset, .unset, .unset, .unset] [(.int (1 : Int32))])) (fun _ kont => XS.goto X11.here hx rfl (pc0 := 51) (pc' := 55) rfl (hb hby at_51) (by decide) (by decide) kont) ?_
      refine own_st (T' := T11) (f' := (mkF m 57 #[(.val (.int x0)), (.val (.int x1)), (.val (.ref b1)), (.val (.ref s_LaunchMode_STANDARD)), (.val (.int (1 : Int32))), .unset, .unset, .unset] [])) (fun _ kont => XS.istore X11.here hx rfl (hb hby at_55) rfl (l' := #[(.val (.int x0)), (.val (.int x1)), (.val (.ref b1)), (.val (.ref s_LaunchMode_STANDARD)), (.val (.int (1 : Int32))), .unset, .unset, .unset]) rfl kont) ?_
      refine own_st (T' := T11) (f' := (mkF m 58 #[(.val (.int x0)), (.val (.int x1)), (.val (.ref b1)), (.val (.ref s_LaunchMode_STANDARD)), (.val (.int (1 : Int32))), .unset, .unset, .unset] [(.ref s_LaunchMode_STANDARD)])) (fun _ kont => XS.aloadN X11.here hx rfl (hb hby at_57) rfl rfl kont) ?_
      refine own_st (T' := T11) (f' := (mkF m 60 #[(.val (.int x0)), (.val (.int x1)), (.val (.ref b1)), (.val (.ref s_LaunchMode_STANDARD)), (.val (.int (1 : Int32))), .unset, .unset, .unset] [(.int (1 : Int32)), (.ref s_LaunchMode_STANDARD)])) (fun _ kont => XS.iload X11.here hx rfl (hb hby at_58) rfl kont) ?_
      obtain ⟨v15, T15, L15, hQ15, X15, st15⟩ := own_callV X11 hx hZ e11 hown (hw _ (List.mem_of_getElem? (i := 15) rfl)) (hw _ (List.mem_of_getElem? (i := 16) rfl)) (hw _ (List.mem_of_getElem? (i := 18) rfl)) (hw _ (List.mem_of_getElem? (i := 17) rfl)) (by decide) (b := s_LaunchMode_STANDARD) (E_LaunchMode_STANDARD.ext EX11) (hw _ (List.mem_of_getElem? (i := 19) rfl)) (hw _ (List.mem_of_getElem? (i := 3) rfl)) (own_k1_4 l Z a0 hw s_LaunchMode_STANDARD h11 (E_LaunchMode_STANDARD.ext EX11) (F_LaunchMode_STANDARD_ordinal.ext EX11)) (g := (mkF m 60 #[(.val (.int x0)), (.val (.int x1)), (.val (.ref b1)), (.val (.ref s_LaunchMode_STANDARD)), (.val (.int (1 : Int32))), .unset, .unset, .unset] [(.int (1 : Int32)), (.ref s_LaunchMode_STANDARD)])) rfl (by rw [hml]; rfl) rfl (argsL := [(.int (1 : Int32))]) (rest := []) rfl (lenOf own_pd2 rfl) rfl (hb hby at_60) (Nat.le_of_ble_eq_true rfl) (Nat.le_of_ble_eq_true rfl) (Nat.le_of_ble_eq_true rfl) (Nat.le_of_ble_eq_true rfl)
      obtain ⟨rfl, rfl, e15⟩ := hQ15
      rw [List.append_nil] at X15
      refine own_st (T' := T15) (f' := (mkF m 63 #[(.val (.int x0)), (.val (.int x1)), (.val (.ref b1)), (.val (.ref s_LaunchMode_STANDARD)), (.val (.int (1 : Int32))), .unset, .unset, .unset] [(.int (0 : Int32))])) st15 ?_
      refine own_st (T' := T15) (f' := (mkF m 65 #[(.val (.int x0)), (.val (.int x1)), (.val (.ref b1)), (.val (.ref s_LaunchMode_STANDARD)), (.val (.int (1 : Int32))), (.val (.int (0 : Int32))), .unset, .unset] [])) (fun _ kont => XS.istore X15.here hx rfl (hb hby at_63) rfl (l' := #[(.val (.int x0)), (.val (.int x1)), (.val (.ref b1)), (.val (.ref s_LaunchMode_STANDARD)), (.val (.int (1 : Int32))), (.val (.int (0 : Int32))), .unset, .unset]) rfl kont) ?_
      refine own_st (T' := T15) (f' := (mkF m 66 #[(.val (.int x0)), (.val (.int x1)), (.val (.ref b1)), (.val (.ref s_LaunchMode_STANDARD)), (.val (.int (1 : Int32))), (.val (.int (0 : Int32))), .unset, .unset] [(.ref s_LaunchMode_STANDARD)])) (fun _ kont => XS.aloadN X15.here hx rfl (hb hby at_65) rfl rfl kont) ?_
      obtain ⟨v16, T16, L16, hQ16, X16, st16⟩ := own_callV X15 hx hZ e15 hown (hw _ (List.mem_of_getElem? (i := 29) rfl)) (hw _ (List.mem_of_getElem? (i := 30) rfl)) (hw _ (List.mem_of_getElem? (i := 32) rfl)) (hw _ (List.mem_of_getElem? (i := 31) rfl)) (by decide) (b := s_LaunchMode_STANDARD) (E_LaunchMode_STANDARD.ext EX11) (hw _ (List.mem_of_getElem? (i := 33) rfl)) (hw _ (List.mem_of_getElem? (i := 3) rfl)) (own_k3_3 l Z a0 hw s_LaunchMode_STANDARD h11 (F_LaunchMode_STANDARD_keepsOneInstance.ext EX11)) (g := (mkF m 66 #[(.val (.int x0)), (.val (.int x1)), (.val (.ref b1)), (.val (.ref s_LaunchMode_STANDARD)), (.val (.int (1 : Int32))), (.val (.int (0 : Int32))), .unset, .unset] [(.ref s_LaunchMode_STANDARD)])) rfl (by rw [hml]; rfl) rfl (argsL := []) (rest := []) rfl (lenOf own_pd1 rfl) rfl (hb hby at_66) (Nat.le_of_ble_eq_true rfl) (Nat.le_of_ble_eq_true rfl) (Nat.le_of_ble_eq_true rfl) (Nat.le_of_ble_eq_true rfl)
      obtain ⟨rfl, rfl, e16⟩ := hQ16
      rw [List.append_nil] at X16
      refine own_st (T' := T16) (f' := (mkF m 69 #[(.val (.int x0)), (.val (.int x1)), (.val (.ref b1)), (.val (.ref s_LaunchMode_STANDARD)), (.val (.int (1 : Int32))), (.val (.int (0 : Int32))), .unset, .unset] [(.int (0 : Int32))])) st16 ?_
      refine own_st (T' := T16) (f' := (mkF m 71 #[(.val (.int x0)), (.val (.int x1)), (.val (.ref b1)), (.val (.ref s_LaunchMode_STANDARD)), (.val (.int (1 : Int32))), (.val (.int (0 : Int32))), (.val (.int (0 : Int32))), .unset] [])) (fun _ kont => XS.istore X16.here hx rfl (hb hby at_69) rfl (l' := #[(.val (.int x0)), (.val (.int x1)), (.val (.ref b1)), (.val (.ref s_LaunchMode_STANDARD)), (.val (.int (1 : Int32))), (.val (.int (0 : Int32))), (.val (.int (0 : Int32))), .unset]) rfl kont) ?_
      refine own_st (T' := T16) (f' := (mkF m 73 #[(.val (.int x0)), (.val (.int x1)), (.val (.ref b1)), (.val (.ref s_LaunchMode_STANDARD)), (.val (.int (1 : Int32))), (.val (.int (0 : Int32))), (.val (.int (0 : Int32))), .unset] [(.int (1 : Int32))])) (fun _ kont => XS.iload X16.here hx rfl (hb hby at_71) rfl kont) ?_
      refine own_st (T' := T16) (f' := (mkF m 83 #[(.val (.int x0)), (.val (.int x1)), (.val (.ref b1)), (.val (.ref s_LaunchMode_STANDARD)), (.val (.int (1 : Int32))), (.val (.int (0 : Int32))), (.val (.int (0 : Int32))), .unset] [])) (fun _ kont => XS.ifYes X16.here hx rfl (pc0 := 73) (pc' := 83) rfl (hb hby at_73) rfl ((if0 _ _).trans (feq (by decide : ¬ ((1 : Int32) = (0 : Int32)))).2) (by decide) (by decide) kont) ?_
      refine own_st (T' := T16) (f' := (mkF m 85 #[(.val (.int x0)), (.val (.int x1)), (.val (.ref b1)), (.val (.ref s_LaunchMode_STANDARD)), (.val (.int (1 : Int32))), (.val (.int (0 : Int32))), (.val (.int (0 : Int32))), .unset] [(.int (0 : Int32))])) (fun _ kont => XS.iload X16.here hx rfl (hb hby at_83) rfl kont) ?_
      refine own_st (T' := T16) (f' := (mkF m 99 #[(.val (.int x0)), (.val (.int x1)), (.val (.ref b1)), (.val (.ref s_LaunchMode_STANDARD)), (.val (.int (1 : Int32))), (.val (.int (0 : Int32))), (.val (.int (0 : Int32))), .unset] [])) (fun _ kont => XS.ifYes X16.here hx rfl (pc0 := 85) (pc' := 99) rfl (hb hby at_85) rfl ((if0 _ _).trans (teq (by decide : (0 : Int32) = (0 : Int32))).1) (by decide) (by decide) kont) ?_
      refine own_st (T' := T16) (f' := (mkF m 100 #[(.val (.int x0)), (.val (.int x1)), (.val (.ref b1)), (.val (.ref s_LaunchMode_STANDARD)), (.val (.int (1 : Int32))), (.val (.int (0 : Int32))), (.val (.int (0 : Int32))), .unset] [(.int (0 : Int32))])) (fun _ kont => XS.iconst X16.here hx rfl (hb hby at_99) kont) ?_
      refine own_st (T' := T16) (f' := (mkF m 102 #[(.val (.int x0)), (.val (.int x1)), (.val (.ref b1)), (.val (.ref s_LaunchMode_STANDARD)), (.val (.int (1 : Int32))), (.val (.int (0 : Int32))), (.val (.int (0 : Int32))), (.val (.int (0 : Int32)))] [])) (fun _ kont => XS.istore X16.here hx rfl (hb hby at_100) rfl (l' := #[(.val (.int x0)), (.val (.int x1)), (.val (.ref b1)), (.val (.ref s_LaunchMode_STANDARD)), (.val (.int (1 : Int32))), (.val (.int (0 : Int32))), (.val (.int (0 : Int32))), (.val (.int (0 : Int32)))]) rfl kont) ?_
      refine own_st (T' := T16) (f' := (mkF m 104 #[(.val (.int x0)), (.val (.int x1)), (.val (.ref b1)), (.val (.ref s_LaunchMode_STANDARD)), (.val (.int (1 : Int32))), (.val (.int (0 : Int32))), (.val (.int (0 : Int32))), (.val (.int (0 : Int32)))] [(.int (0 : Int32))])) (fun _ kont => XS.iload X16.here hx rfl (hb hby at_102) rfl kont) ?_
      refine own_st (T' := T16) (f' := (mkF m 106 #[(.val (.int x0)), (.val (.int x1)), (.val (.ref b1)), (.val (.ref s_LaunchMode_STANDARD)), (.val (.int (1 : Int32))), (.val (.int (0 : Int32))), (.val (.int (0 : Int32))), (.val (.int (0 : Int32)))] [(.int (0 : Int32)), (.int (0 : Int32))])) (fun _ kont => XS.iload X16.here hx rfl (hb hby at_104) rfl kont) ?_
      refine own_st (T' := T16) (f' := (mkF m 109 #[(.val (.int x0)), (.val (.int x1)), (.val (.ref b1)), (.val (.ref s_LaunchMode_STANDARD)), (.val (.int (1 : Int32))), (.val (.int (0 : Int32))), (.val (.int (0 : Int32))), (.val (.int (0 : Int32)))] [])) (fun _ kont => XS.icmpNo X16.here hx rfl (hb hby at_106) rfl (teq (by decide : (0 : Int32) = (0 : Int32))).2 kont) ?_
      refine own_st (T' := T16) (f' := (mkF m 110 #[(.val (.int x0)), (.val (.int x1)), (.val (.ref b1)), (.val (.ref s_LaunchMode_STANDARD)), (.val (.int (1 : Int32))), (.val (.int (0 : Int32))), (.val (.int (0 : Int32))), (.val (.int (0 : Int32)))] [(.int (1 : Int32))])) (fun _ kont => XS.iconst X16.here hx rfl (hb hby at_109) kont) ?_
      refine own_st (T' := T16) (f' := (mkF m 114 #[(.val (.int x0)), (.val (.int x1)), (.val (.ref b1)), (.val (.ref s_LaunchMode_STANDARD)), (.val (.int (1 : Int32))), (.val (.int (0 : Int32))), (.val (.int (0 : Int32))), (.val (.int (0 : Int32)))] [(.int (1 : Int32))])) (fun _ kont => XS.goto X16.here hx rfl (pc0 := 110) (pc' := 114) rfl (hb hby at_110) (by decide) (by decide) kont) ?_
      exact own_retN X16 hx hlk (t := .boolean) hret (by simp) (hb hby at_114) ⟨rfl, N_11⟩ (by decide) (by decide)
  · skip  -- i = 1
    obtain ⟨cl17, Ar17, q17, S17, N17, H17, G17⟩ := V11
    have hin17 : ¬ ((1 : Int32) < 0 ∨ cl17.slots.size ≤ ((1 : Int32)).toNatClampNeg) := inb_of S17 ⟨by decide, by decide⟩
    refine own_st (T' := T11) (f' := (mkF m 43 #[(.val (.int x0)), (.val (.int x1)), (.val (.ref b1)), .unset, .unset, .unset, .unset, .unset] [(.ref s_LaunchMode_SINGLE_TOP)])) (fun _ kont => X11.aaload hx (j := (1 : Int32)) (v := (.ref s_LaunchMode_SINGLE_TOP)) (by rw [e11]; exact Ar17.1) (State.isArrayOf_alike hZ.alike Ar17.2.1) rfl Ar17.2.2 hin17 (Has.at H17 hin17 rfl) (g := (mkF m 42 #[(.val (.int x0)), (.val (.int x1)), (.val (.ref b1)), .unset, .unset, .unset, .unset, .unset] [(.int (1 : Int32)), (.ref b1)])) rfl rfl (hb hby at_42) _ kont) ?_
    refine own_st (T' := T11) (f' := (mkF m 44 #[(.val (.int x0)), (.val (.int x1)), (.val (.ref b1)), (.val (.ref s_LaunchMode_SINGLE_TOP)), .unset, .unset, .unset, .unset] [])) (fun _ kont => XS.astoreN X11.here hx rfl (hb hby at_43) rfl rfl (l' := #[(.val (.int x0)), (.val (.int x1)), (.val (.ref b1)), (.val (.ref s_LaunchMode_SINGLE_TOP)), .unset, .unset, .unset, .unset]) rfl kont) ?_
    refine own_st (T' := T11) (f' := (mkF m 45 #[(.val (.int x0)), (.val (.int x1)), (.val (.ref b1)), (.val (.ref s_LaunchMode_SINGLE_TOP)), .unset, .unset, .unset, .unset] [(.int x1)])) (fun _ kont => XS.iloadN X11.here hx rfl (hb hby at_44) rfl kont) ?_
    refine own_st (T' := T11) (f' := (mkF m 46 #[(.val (.int x0)), (.val (.int x1)), (.val (.ref b1)), (.val (.ref s_LaunchMode_SINGLE_TOP)), .unset, .unset, .unset, .unset] [(.int (1 : Int32)), (.int x1)])) (fun _ kont => XS.iconst X11.here hx rfl (hb hby at_45) kont) ?_
    refine own_st (T' := T11) (f' := (mkF m 47 #[(.val (.int x0)), (.val (.int x1)), (.val (.ref b1)), (.val (.ref s_LaunchMode_SINGLE_TOP)), .unset, .unset, .unset, .unset] [(.int (x1 &&& (1 : Int32)))])) (fun _ kont => XS.iand X11.here hx rfl (hb hby at_46) rfl kont) ?_
    by_cases c0 : (x1 &&& (1 : Int32)) = (0 : Int32)
    · refine own_st (T' := T11) (f' := (mkF m 54 #[(.val (.int x0)), (.val (.int x1)), (.val (.ref b1)), (.val (.ref s_LaunchMode_SINGLE_TOP)), .unset, .unset, .unset, .unset] [])) (fun _ kont => XS.ifYes X11.here hx rfl (pc0 := 47) (pc' := 54) rfl (hb hby at_47) rfl ((if0 _ _).trans (teq c0).1) (by decide) (by decide) kont) ?_
      refine own_st (T' := T11) (f' := (mkF m 55 #[(.val (.int x0)), (.val (.int x1)), (.val (.ref b1)), (.val (.ref s_LaunchMode_SINGLE_TOP)), .unset, .unset, .unset, .unset] [(.int (0 : Int32))])) (fun _ kont => XS.iconst X11.here hx rfl (hb hby at_54) kont) ?_
      refine own_st (T' := T11) (f' := (mkF m 57 #[(.val (.int x0)), (.val (.int x1)), (.val (.ref b1)), (.val (.ref s_LaunchMode_SINGLE_TOP)), (.val (.int (0 : Int32))), .unset, .unset, .unset] [])) (fun _ kont => XS.istore X11.here hx rfl (hb hby at_55) rfl (l' := #[(.val (.int x0)), (.val (.int x1)), (.val (.ref b1)), (.val (.ref s_LaunchMode_SINGLE_TOP)), (.val (.int (0 : Int32))), .unset, .unset, .unset]) rfl kont) ?_
      refine own_st (T' := T11) (f' := (mkF m 58 #[(.val (.int x0)), (.val (.int x1)), (.val (.ref b1)), (.val (.ref s_LaunchMode_SINGLE_TOP)), (.val (.int (0 : Int32))), .unset, .unset, .unset] [(.ref s_LaunchMode_SINGLE_TOP)])) (fun _ kont => XS.aloadN X11.here hx rfl (hb hby at_57) rfl rfl kont) ?_
      refine own_st (T' := T11) (f' := (mkF m 60 #[(.val (.int x0)), (.val (.int x1)), (.val (.ref b1)), (.val (.ref s_LaunchMode_SINGLE_TOP)), (.val (.int (0 : Int32))), .unset, .unset, .unset] [(.int (0 : Int32)), (.ref s_LaunchMode_SINGLE_TOP)])) (fun _ kont => XS.iload X11.here hx rfl (hb hby at_58) rfl kont) ?_
      obtain ⟨v18, T18, L18, hQ18, X18, st18⟩ := own_callV X11 hx hZ e11 hown (hw _ (List.mem_of_getElem? (i := 15) rfl)) (hw _ (List.mem_of_getElem? (i := 16) rfl)) (hw _ (List.mem_of_getElem? (i := 18) rfl)) (hw _ (List.mem_of_getElem? (i := 17) rfl)) (by decide) (b := s_LaunchMode_SINGLE_TOP) (E_LaunchMode_SINGLE_TOP.ext EX11) (hw _ (List.mem_of_getElem? (i := 19) rfl)) (hw _ (List.mem_of_getElem? (i := 3) rfl)) (own_k1_5 l Z a0 hw s_LaunchMode_SINGLE_TOP h11 (E_LaunchMode_SINGLE_TOP.ext EX11) (F_LaunchMode_SINGLE_TOP_ordinal.ext EX11)) (g := (mkF m 60 #[(.val (.int x0)), (.val (.int x1)), (.val (.ref b1)), (.val (.ref s_LaunchMode_SINGLE_TOP)), (.val (.int (0 : Int32))), .unset, .unset, .unset] [(.int (0 : Int32)), (.ref s_LaunchMode_SINGLE_TOP)])) rfl (by rw [hml]; rfl) rfl (argsL := [(.int (0 : Int32))]) (rest := []) rfl (lenOf own_pd2 rfl) rfl (hb hby at_60) (Nat.le_of_ble_eq_true rfl) (Nat.le_of_ble_eq_true rfl) (Nat.le_of_ble_eq_true rfl) (Nat.le_of_ble_eq_true rfl)
      obtain ⟨rfl, rfl, e18⟩ := hQ18
      rw [List.append_nil] at X18
      refine own_st (T' := T18) (f' := (mkF m 63 #[(.val (.int x0)), (.val (.int x1)), (.val (.ref b1)), (.val (.ref s_LaunchMode_SINGLE_TOP)), (.val (.int (0 : Int32))), .unset, .unset, .unset] [(.int (0 : Int32))])) st18 ?_
      refine own_st (T' := T18) (f' := (mkF m 65 #[(.val (.int x0)), (.val (.int x1)), (.val (.ref b1)), (.val (.ref s_LaunchMode_SINGLE_TOP)), (.val (.int (0 : Int32))), (.val (.int (0 : Int32))), .unset, .unset] [])) (fun _ kont => XS.istore X18.here hx rfl (hb hby at_63) rfl (l' := #[(.val (.int x0)), (.val (.int x1)), (.val (.ref b1)), (.val (.ref s_LaunchMode_SINGLE_TOP)), (.val (.int (0 : Int32))), (.val (.int (0 : Int32))), .unset, .unset]) rfl kont) ?_
      refine own_st (T' := T18) (f' := (mkF m 66 #[(.val (.int x0)), (.val (.int x1)), (.val (.ref b1)), (.val (.ref s_LaunchMode_SINGLE_TOP)), (.val (.int (0 : Int32))), (.val (.int (0 : Int32))), .unset, .unset] [(.ref s_LaunchMode_SINGLE_TOP)])) (fun _ kont => XS.aloadN X18.here hx rfl (hb hby at_65) rfl rfl kont) ?_
      obtain ⟨v19, T19, L19, hQ19, X19, st19⟩ := own_callV X18 hx hZ e18 hown (hw _ (List.mem_of_getElem? (i := 29) rfl)) (hw _ (List.mem_of_getElem? (i := 30) rfl)) (hw _ (List.mem_of_getElem? (i := 32) rfl)) (hw _ (List.mem_of_getElem? (i := 31) rfl)) (by decide) (b := s_LaunchMode_SINGLE_TOP) (E_LaunchMode_SINGLE_TOP.ext EX11) (hw _ (List.mem_of_getElem? (i := 33) rfl)) (hw _ (List.mem_of_getElem? (i := 3) rfl)) (own_k3_3 l Z a0 hw s_LaunchMode_SINGLE_TOP h11 (F_LaunchMode_SINGLE_TOP_keepsOneInstance.ext EX11)) (g := (mkF m 66 #[(.val (.int x0)), (.val (.int x1)), (.val (.ref b1)), (.val (.ref s_LaunchMode_SINGLE_TOP)), (.val (.int (0 : Int32))), (.val (.int (0 : Int32))), .unset, .unset] [(.ref s_LaunchMode_SINGLE_TOP)])) rfl (by rw [hml]; rfl) rfl (argsL := []) (rest := []) rfl (lenOf own_pd1 rfl) rfl (hb hby at_66) (Nat.le_of_ble_eq_true rfl) (Nat.le_of_ble_eq_true rfl) (Nat.le_of_ble_eq_true rfl) (Nat.le_of_ble_eq_true rfl)
      obtain ⟨rfl, rfl, e19⟩ := hQ19
      rw [List.append_nil] at X19
      refine own_st (T' := T19) (f' := (mkF m 69 #[(.val (.int x0)), (.val (.int x1)), (.val (.ref b1)), (.val (.ref s_LaunchMode_SINGLE_TOP)), (.val (.int (0 : Int32))), (.val (.int (0 : Int32))), .unset, .unset] [(.int (0 : Int32))])) st19 ?_
      refine own_st (T' := T19) (f' := (mkF m 71 #[(.val (.int x0)), (.val (.int x1)), (.val (.ref b1)), (.val (.ref s_LaunchMode_SINGLE_TOP)), (.val (.int (0 : Int32))), (.val (.int (0 : Int32))), (.val (.int (0 : Int32))), .unset] [])) (fun _ kont => XS.istore X19.here hx rfl (hb hby at_69) rfl (l' := #[(.val (.int x0)), (.val (.int x1)), (.val (.ref b1)), (.val (.ref s_LaunchMode_SINGLE_TOP)), (.val (.int (0 : Int32))), (.val (.int (0 : Int32))), (.val (.int (0 : Int32))), .unset]) rfl kont) ?_
      refine own_st (T' := T19) (f' := (mkF m 73 #[(.val (.int x0)), (.val (.int x1)), (.val (.ref b1)), (.val (.ref s_LaunchMode_SINGLE_TOP)), (.val (.int (0 : Int32))), (.val (.int (0 : Int32))), (.val (.int (0 : Int32))), .unset] [(.int (0 : Int32))])) (fun _ kont => XS.iload X19.here hx rfl (hb hby at_71) rfl kont) ?_
      refine own_st (T' := T19) (f' := (mkF m 76 #[(.val (.int x0)), (.val (.int x1)), (.val (.ref b1)), (.val (.ref s_LaunchMode_SINGLE_TOP)), (.val (.int (0 : Int32))), (.val (.int (0 : Int32))), (.val (.int (0 : Int32))), .unset] [])) (fun _ kont => XS.ifNo X19.here hx rfl (hb hby at_73) rfl ((if0 _ _).trans (teq (by decide : (0 : Int32) = (0 : Int32))).2) kont) ?_
      refine own_st (T' := T19) (f' := (mkF m 78 #[(.val (.int x0)), (.val (.int x1)), (.val (.ref b1)), (.val (.ref s_LaunchMode_SINGLE_TOP)), (.val (.int (0 : Int32))), (.val (.int (0 : Int32))), (.val (.int (0 : Int32))), .unset] [(.int (0 : Int32))])) (fun _ kont => XS.iload X19.here hx rfl (hb hby at_76) rfl kont) ?_
      refine own_st (T' := T19) (f' := (mkF m 80 #[(.val (.int x0)), (.val (.int x1)), (.val (.ref b1)), (.val (.ref s_LaunchMode_SINGLE_TOP)), (.val (.int (0 : Int32))), (.val (.int (0 : Int32))), (.val (.int (0 : Int32))), (.val (.int (0 : Int32)))] [])) (fun _ kont => XS.istore X19.here hx rfl (hb hby at_78) rfl (l' := #[(.val (.int x0)), (.val (.int x1)), (.val (.ref b1)), (.val (.ref s_LaunchMode_SINGLE_TOP)), (.val (.int (0 : Int32))), (.val (.int (0 : Int32))), (.val (.int (0 : Int32))), (.val (.int (0 : Int32)))]) rfl kont) ?_
      refine own_st (T' := T19) (f' := (mkF m 102 #[(.val (.int x0)), (.val (.int x1)), (.val (.ref b1)), (.val (.ref s_LaunchMode_SINGLE_TOP)), (.val (.int (0 : Int32))), (.val (.int (0 : Int32))), (.val (.int (0 : Int32))), (.val (.int (0 : Int32)))] [])) (fun _ kont => XS.goto X19.here hx rfl (pc0 := 80) (pc' := 102) rfl (hb hby at_80) (by decide) (by decide) kont) ?_
      refine own_st (T' := T19) (f' := (mkF m 104 #[(.val (.int x0)), (.val (.int x1)), (.val (.ref b1)), (.val (.ref s_LaunchMode_SINGLE_TOP)), (.val (.int (0 : Int32))), (.val (.int (0 : Int32))), (.val (.int (0 : Int32))), (.val (.int (0 : Int32)))] [(.int (0 : Int32))])) (fun _ kont => XS.iload X19.here hx rfl (hb hby at_102) rfl kont) ?_
      refine own_st (T' := T19) (f' := (mkF m 106 #[(.val (.int x0)), (.val (.int x1)), (.val (.ref b1)), (.val (.ref s_LaunchMode_SINGLE_TOP)), (.val (.int (0 : Int32))), (.val (.int (0 : Int32))), (.val (.int (0 : Int32))), (.val (.int (0 : Int32)))] [(.int (0 : Int32)), (.int (0 : Int32))])) (fun _ kont => XS.iload X19.here hx rfl (hb hby at_104) rfl kont) ?_
      refine own_st (T' := T19) (f' := (mkF m 109 #[(.val (.int x0)), (.val (.int x1)), (.val (.ref b1)), (.val (.ref s_LaunchMode_SINGLE_TOP)), (.val (.int (0 : Int32))), (.val (.int (0 : Int32))), (.val (.int (0 : Int32))), (.val (.int (0 : Int32)))] [])) (fun _ kont => XS.icmpNo X19.here hx rfl (hb hby at_106) rfl (teq (by decide : (0 : Int32) = (0 : Int32))).2 kont) ?_
      refine own_st (T' := T19) (f' := (mkF m 110 #[(.val (.int x0)), (.val (.int x1)), (.val (.ref b1)), (.val (.ref s_LaunchMode_SINGLE_TOP)), (.val (.int (0 : Int32))), (.val (.int (0 : Int32))), (.val (.int (0 : Int32))), (.val (.int (0 : Int32)))] [(.int (1 : Int32))])) (fun _ kont => XS.iconst X19.here hx rfl (hb hby at_109) kont) ?_
      refine own_st (T' := T19) (f' := (mkF m 114 #[(.val (.int x0)), (.val (.int x1)), (.val (.ref b1)), (.val (.ref s_LaunchMode_SINGLE_TOP)), (.val (.int (0 : Int32))), (.val (.int (0 : Int32))), (.val (.int (0 : Int32))), (.val (.int (0 : Int32)))] [(.int (1 : Int32))])) (fun _ kont => XS.goto X19.here hx rfl (pc0 := 110) (pc' := 114) rfl (hb hby at_110) (by decide) (by decide) kont) ?_
      exact own_retN X19 hx hlk (t := .boolean) hret (by simp) (hb hby at_114) ⟨rfl, N_11⟩ (by decide) (by decide)
    · refine own_st (T' := T11) (f' := (mkF m 50 #[(.val (.int x0)), (.val (.int x1)), (.val (.ref b1)), (.val (.ref s_LaunchMode_SINGLE_TOP)), .unset, .unset, .unset, .unset] [])) (fun _ kont => XS.ifNo X11.here hx rfl (hb hby at_47) rfl ((if0 _ _).trans (feq c0).1) kont) ?_
      refine own_st (T' := T11) (f' := (mkF m 51 #[(.val (.int x0)), (.val (.int x1)), (.val (.ref b1)), (.val (.ref s_LaunchMode_SINGLE_TOP)), .unset, .unset, .unset, .unset] [(.int (1 : Int32))])) (fun _ kont => XS.iconst X11.here hx rfl (hb hby at_50) kont) ?_
      refine own_st (T' := T11) (f' := (mkF m 55 #[(.val (.int x0)), (.val (.int x1)), (.val (.ref b1)), (.val (.ref s_LaunchMode_SINGLE_TOP)), .unset, .unset, .unset, .unset] [(.int (1 : Int32))])) (fun _ kont => XS.goto X11.here hx rfl (pc0 := 51) (pc' := 55) rfl (hb hby at_51) (by decide) (by decide) kont) ?_
      refine own_st (T' := T11) (f' := (mkF m 57 #[(.val (.int x0)), (.val (.int x1)), (.val (.ref b1)), (.val (.ref s_LaunchMode_SINGLE_TOP)), (.val (.int (1 : Int32))), .unset, .unset, .unset] [])) (fun _ kont => XS.istore X11.here hx rfl (hb hby at_55) rfl (l' := #[(.val (.int x0)), (.val (.int x1)), (.val (.ref b1)), (.val (.ref s_LaunchMode_SINGLE_TOP)), (.val (.int (1 : Int32))), .unset, .unset, .unset]) rfl kont) ?_
      refine own_st (T' := T11) (f' := (mkF m 58 #[(.val (.int x0)), (.val (.int x1)), (.val (.ref b1)), (.val (.ref s_LaunchMode_SINGLE_TOP)), (.val (.int (1 : Int32))), .unset, .unset, .unset] [(.ref s_LaunchMode_SINGLE_TOP)])) (fun _ kont => XS.aloadN X11.here hx rfl (hb hby at_57) rfl rfl kont) ?_
      refine own_st (T' := T11) (f' := (mkF m 60 #[(.val (.int x0)), (.val (.int x1)), (.val (.ref b1)), (.val (.ref s_LaunchMode_SINGLE_TOP)), (.val (.int (1 : Int32))), .unset, .unset, .unset] [(.int (1 : Int32)), (.ref s_LaunchMode_SINGLE_TOP)])) (fun _ kont => XS.iload X11.here hx rfl (hb hby at_58) rfl kont) ?_
      obtain ⟨v20, T20, L20, hQ20, X20, st20⟩ := own_callV X11 hx hZ e11 hown (hw _ (List.mem_of_getElem? (i := 15) rfl)) (hw _ (List.mem_of_getElem? (i := 16) rfl)) (hw _ (List.mem_of_getElem? (i := 18) rfl)) (hw _ (List.mem_of_getElem? (i := 17) rfl)) (by decide) (b := s_LaunchMode_SINGLE_TOP) (E_LaunchMode_SINGLE_TOP.ext EX11) (hw _ (List.mem_of_getElem? (i := 19) rfl)) (hw _ (List.mem_of_getElem? (i := 3) rfl)) (own_k1_7 l Z a0 hw s_LaunchMode_SINGLE_TOP h11 (E_LaunchMode_SINGLE_TOP.ext EX11) (F_LaunchMode_SINGLE_TOP_ordinal.ext EX11)) (g := (mkF m 60 #[(.val (.int x0)), (.val (.int x1)), (.val (.ref b1)), (.val (.ref s_LaunchMode_SINGLE_TOP)), (.val (.int (1 : Int32))), .unset, .unset, .unset] [(.int (1 : Int32)), (.ref s_LaunchMode_SINGLE_TOP)])) rfl (by rw [hml]; rfl) rfl (argsL := [(.int (1 : Int32))]) (rest := []) rfl (lenOf own_pd2 rfl) rfl (hb hby at_60) (Nat.le_of_ble_eq_true rfl) (Nat.le_of_ble_eq_true rfl) (Nat.le_of_ble_eq_true rfl) (Nat.le_of_ble_eq_true rfl)
      obtain ⟨rfl, rfl, e20⟩ := hQ20
      rw [List.append_nil] at X20
      refine own_st (T' := T20) (f' := (mkF m 63 #[(.val (.int x0)), (.val (.int x1)), (.val (.ref b1)), (.val (.ref s_LaunchMode_SINGLE_TOP)), (.val (.int (1 : Int32))), .unset, .unset, .unset] [(.int (0 : Int32))])) st20 ?_
      refine own_st (T' := T20) (f' := (mkF m 65 #[(.val (.int x0)), (.val (.int x1)), (.val (.ref b1)), (.val (.ref s_LaunchMode_SINGLE_TOP)), (.val (.int (1 : Int32))), (.val (.int (0 : Int32))), .unset, .unset] [])) (fun _ kont => XS.istore X20.here hx rfl (hb hby at_63) rfl (l' := #[(.val (.int x0)), (.val (.int x1)), (.val (.ref b1)), (.val (.ref s_LaunchMode_SINGLE_TOP)), (.val (.int (1 : Int32))), (.val (.int (0 : Int32))), .unset, .unset]) rfl kont) ?_
      refine own_st (T' := T20) (f' := (mkF m 66 #[(.val (.int x0)), (.val (.int x1)), (.val (.ref b1)), (.val (.ref s_LaunchMode_SINGLE_TOP)), (.val (.int (1 : Int32))), (.val (.int (0 : Int32))), .unset, .unset] [(.ref s_LaunchMode_SINGLE_TOP)])) (fun _ kont => XS.aloadN X20.here hx rfl (hb hby at_65) rfl rfl kont) ?_
      obtain ⟨v21, T21, L21, hQ21, X21, st21⟩ := own_callV X20 hx hZ e20 hown (hw _ (List.mem_of_getElem? (i := 29) rfl)) (hw _ (List.mem_of_getElem? (i := 30) rfl)) (hw _ (List.mem_of_getElem? (i := 32) rfl)) (hw _ (List.mem_of_getElem? (i := 31) rfl)) (by decide) (b := s_LaunchMode_SINGLE_TOP) (E_LaunchMode_SINGLE_TOP.ext EX11) (hw _ (List.mem_of_getElem? (i := 33) rfl)) (hw _ (List.mem_of_getElem? (i := 3) rfl)) (own_k3_3 l Z a0 hw s_LaunchMode_SINGLE_TOP h11 (F_LaunchMode_SINGLE_TOP_keepsOneInstance.ext EX11)) (g := (mkF m 66 #[(.val (.int x0)), (.val (.int x1)), (.val (.ref b1)), (.val (.ref s_LaunchMode_SINGLE_TOP)), (.val (.int (1 : Int32))), (.val (.int (0 : Int32))), .unset, .unset] [(.ref s_LaunchMode_SINGLE_TOP)])) rfl (by rw [hml]; rfl) rfl (argsL := []) (rest := []) rfl (lenOf own_pd1 rfl) rfl (hb hby at_66) (Nat.le_of_ble_eq_true rfl) (Nat.le_of_ble_eq_true rfl) (Nat.le_of_ble_eq_true rfl) (Nat.le_of_ble_eq_true rfl)
      obtain ⟨rfl, rfl, e21⟩ := hQ21
      rw [List.append_nil] at X21
      refine own_st (T' := T21) (f' := (mkF m 69 #[(.val (.int x0)), (.val (.int x1)), (.val (.ref b1)), (.val (.ref s_LaunchMode_SINGLE_TOP)), (.val (.int (1 : Int32))), (.val (.int (0 : Int32))), .unset, .unset] [(.int (0 : Int32))])) st21 ?_
      refine own_st (T' := T21) (f' := (mkF m 71 #[(.val (.int x0)), (.val (.int x1)), (.val (.ref b1)), (.val (.ref s_LaunchMode_SINGLE_TOP)), (.val (.int (1 : Int32))), (.val (.int (0 : Int32))), (.val (.int (0 : Int32))), .unset] [])) (fun _ kont => XS.istore X21.here hx rfl (hb hby at_69) rfl (l' := #[(.val (.int x0)), (.val (.int x1)), (.val (.ref b1)), (.val (.ref s_LaunchMode_SINGLE_TOP)), (.val (.int (1 : Int32))), (.val (.int (0 : Int32))), (.val (.int (0 : Int32))), .unset]) rfl kont) ?_
      refine own_st (T' := T21) (f' := (mkF m 73 #[(.val (.int x0)), (.val (.int x1)), (.val (.ref b1)), (.val (.ref s_LaunchMode_SINGLE_TOP)), (.val (.int (1 : Int32))), (.val (.int (0 : Int32))), (.val (.int (0 : Int32))), .unset] [(.int (1 : Int32))])) (fun _ kont => XS.iload X21.here hx rfl (hb hby at_71) rfl kont) ?_
      refine own_st (T' := T21) (f' := (mkF m 83 #[(.val (.int x0)), (.val (.int x1)), (.val (.ref b1)), (.val (.ref s_LaunchMode_SINGLE_TOP)), (.val (.int (1 : Int32))), (.val (.int (0 : Int32))), (.val (.int (0 : Int32))), .unset] [])) (fun _ kont => XS.ifYes X21.here hx rfl (pc0 := 73) (pc' := 83) rfl (hb hby at_73) rfl ((if0 _ _).trans (feq (by decide : ¬ ((1 : Int32) = (0 : Int32)))).2) (by decide) (by decide) kont) ?_
      refine own_st (T' := T21) (f' := (mkF m 85 #[(.val (.int x0)), (.val (.int x1)), (.val (.ref b1)), (.val (.ref s_LaunchMode_SINGLE_TOP)), (.val (.int (1 : Int32))), (.val (.int (0 : Int32))), (.val (.int (0 : Int32))), .unset] [(.int (0 : Int32))])) (fun _ kont => XS.iload X21.here hx rfl (hb hby at_83) rfl kont) ?_
      refine own_st (T' := T21) (f' := (mkF m 99 #[(.val (.int x0)), (.val (.int x1)), (.val (.ref b1)), (.val (.ref s_LaunchMode_SINGLE_TOP)), (.val (.int (1 : Int32))), (.val (.int (0 : Int32))), (.val (.int (0 : Int32))), .unset] [])) (fun _ kont => XS.ifYes X21.here hx rfl (pc0 := 85) (pc' := 99) rfl (hb hby at_85) rfl ((if0 _ _).trans (teq (by decide : (0 : Int32) = (0 : Int32))).1) (by decide) (by decide) kont) ?_
      refine own_st (T' := T21) (f' := (mkF m 100 #[(.val (.int x0)), (.val (.int x1)), (.val (.ref b1)), (.val (.ref s_LaunchMode_SINGLE_TOP)), (.val (.int (1 : Int32))), (.val (.int (0 : Int32))), (.val (.int (0 : Int32))), .unset] [(.int (0 : Int32))])) (fun _ kont => XS.iconst X21.here hx rfl (hb hby at_99) kont) ?_
      refine own_st (T' := T21) (f' := (mkF m 102 #[(.val (.int x0)), (.val (.int x1)), (.val (.ref b1)), (.val (.ref s_LaunchMode_SINGLE_TOP)), (.val (.int (1 : Int32))), (.val (.int (0 : Int32))), (.val (.int (0 : Int32))), (.val (.int (0 : Int32)))] [])) (fun _ kont => XS.istore X21.here hx rfl (hb hby at_100) rfl (l' := #[(.val (.int x0)), (.val (.int x1)), (.val (.ref b1)), (.val (.ref s_LaunchMode_SINGLE_TOP)), (.val (.int (1 : Int32))), (.val (.int (0 : Int32))), (.val (.int (0 : Int32))), (.val (.int (0 : Int32)))]) rfl kont) ?_
      refine own_st (T' := T21) (f' := (mkF m 104 #[(.val (.int x0)), (.val (.int x1)), (.val (.ref b1)), (.val (.ref s_LaunchMode_SINGLE_TOP)), (.val (.int (1 : Int32))), (.val (.int (0 : Int32))), (.val (.int (0 : Int32))), (.val (.int (0 : Int32)))] [(.int (0 : Int32))])) (fun _ kont => XS.iload X21.here hx rfl (hb hby at_102) rfl kont) ?_
      refine own_st (T' := T21) (f' := (mkF m 106 #[(.val (.int x0)), (.val (.int x1)), (.val (.ref b1)), (.val (.ref s_LaunchMode_SINGLE_TOP)), (.val (.int (1 : Int32))), (.val (.int (0 : Int32))), (.val (.int (0 : Int32))), (.val (.int (0 : Int32)))] [(.int (0 : Int32)), (.int (0 : Int32))])) (fun _ kont => XS.iload X21.here hx rfl (hb hby at_104) rfl kont) ?_
      refine own_st (T' := T21) (f' := (mkF m 109 #[(.val (.int x0)), (.val (.int x1)), (.val (.ref b1)), (.val (.ref s_LaunchMode_SINGLE_TOP)), (.val (.int (1 : Int32))), (.val (.int (0 : Int32))), (.val (.int (0 : Int32))), (.val (.int (0 : Int32)))] [])) (fun _ kont => XS.icmpNo X21.here hx rfl (hb hby at_106) rfl (teq (by decide : (0 : Int32) = (0 : Int32))).2 kont) ?_
      refine own_st (T' := T21) (f' := (mkF m 110 #[(.val (.int x0)), (.val (.int x1)), (.val (.ref b1)), (.val (.ref s_LaunchMode_SINGLE_TOP)), (.val (.int (1 : Int32))), (.val (.int (0 : Int32))), (.val (.int (0 : Int32))), (.val (.int (0 : Int32)))] [(.int (1 : Int32))])) (fun _ kont => XS.iconst X21.here hx rfl (hb hby at_109) kont) ?_
      refine own_st (T' := T21) (f' := (mkF m 114 #[(.val (.int x0)), (.val (.int x1)), (.val (.ref b1)), (.val (.ref s_LaunchMode_SINGLE_TOP)), (.val (.int (1 : Int32))), (.val (.int (0 : Int32))), (.val (.int (0 : Int32))), (.val (.int (0 : Int32)))] [(.int (1 : Int32))])) (fun _ kont => XS.goto X21.here hx rfl (pc0 := 110) (pc' := 114) rfl (hb hby at_110) (by decide) (by decide) kont) ?_
      exact own_retN X21 hx hlk (t := .boolean) hret (by simp) (hb hby at_114) ⟨rfl, N_11⟩ (by decide) (by decide)
  · skip  -- i = 2
    obtain ⟨cl22, Ar22, q22, S22, N22, H22, G22⟩ := V11
    have hin22 : ¬ ((2 : Int32) < 0 ∨ cl22.slots.size ≤ ((2 : Int32)).toNatClampNeg) := inb_of S22 ⟨by decide, by decide⟩
    refine own_st (T' := T11) (f' := (mkF m 43 #[(.val (.int x0)), (.val (.int x1)), (.val (.ref b1)), .unset, .unset, .unset, .unset, .unset] [(.ref s_LaunchMode_SINGLE_TASK)])) (fun _ kont => X11.aaload hx (j := (2 : Int32)) (v := (.ref s_LaunchMode_SINGLE_TASK)) (by rw [e11]; exact Ar22.1) (State.isArrayOf_alike hZ.alike Ar22.2.1) rfl Ar22.2.2 hin22 (Has.at H22 hin22 rfl) (g := (mkF m 42 #[(.val (.int x0)), (.val (.int x1)), (.val (.ref b1)), .unset, .unset, .unset, .unset, .unset] [(.int (2 : Int32)), (.ref b1)])) rfl rfl (hb hby at_42) _ kont) ?_
    refine own_st (T' := T11) (f' := (mkF m 44 #[(.val (.int x0)), (.val (.int x1)), (.val (.ref b1)), (.val (.ref s_LaunchMode_SINGLE_TASK)), .unset, .unset, .unset, .unset] [])) (fun _ kont => XS.astoreN X11.here hx rfl (hb hby at_43) rfl rfl (l' := #[(.val (.int x0)), (.val (.int x1)), (.val (.ref b1)), (.val (.ref s_LaunchMode_SINGLE_TASK)), .unset, .unset, .unset, .unset]) rfl kont) ?_
    refine own_st (T' := T11) (f' := (mkF m 45 #[(.val (.int x0)), (.val (.int x1)), (.val (.ref b1)), (.val (.ref s_LaunchMode_SINGLE_TASK)), .unset, .unset, .unset, .unset] [(.int x1)])) (fun _ kont => XS.iloadN X11.here hx rfl (hb hby at_44) rfl kont) ?_
    refine own_st (T' := T11) (f' := (mkF m 46 #[(.val (.int x0)), (.val (.int x1)), (.val (.ref b1)), (.val (.ref s_LaunchMode_SINGLE_TASK)), .unset, .unset, .unset, .unset] [(.int (1 : Int32)), (.int x1)])) (fun _ kont => XS.iconst X11.here hx rfl (hb hby at_45) kont) ?_
    refine own_st (T' := T11) (f' := (mkF m 47 #[(.val (.int x0)), (.val (.int x1)), (.val (.ref b1)), (.val (.ref s_LaunchMode_SINGLE_TASK)), .unset, .unset, .unset, .unset] [(.int (x1 &&& (1 : Int32)))])) (fun _ kont => XS.iand X11.here hx rfl (hb hby at_46) rfl kont) ?_
    by_cases c0 : (x1 &&& (1 : Int32)) = (0 : Int32)
    · refine own_st (T' := T11) (f' := (mkF m 54 #[(.val (.int x0)), (.val (.int x1)), (.val (.ref b1)), (.val (.ref s_LaunchMode_SINGLE_TASK)), .unset, .unset, .unset, .unset] [])) (fun _ kont => XS.ifYes X11.here hx rfl (pc0 := 47) (pc' := 54) rfl (hb hby at_47) rfl ((if0 _ _).trans (teq c0).1) (by decide) (by decide) kont) ?_
      refine own_st (T' := T11) (f' := (mkF m 55 #[(.val (.int x0)), (.val (.int x1)), (.val (.ref b1)), (.val (.ref s_LaunchMode_SINGLE_TASK)), .unset, .unset, .unset, .unset] [(.int (0 : Int32))])) (fun _ kont => XS.iconst X11.here hx rfl (hb hby at_54) kont) ?_
      refine own_st (T' := T11) (f' := (mkF m 57 #[(.val (.int x0)), (.val (.int x1)), (.val (.ref b1)), (.val (.ref s_LaunchMode_SINGLE_TASK)), (.val (.int (0 : Int32))), .unset, .unset, .unset] [])) (fun _ kont => XS.istore X11.here hx rfl (hb hby at_55) rfl (l' := #[(.val (.int x0)), (.val (.int x1)), (.val (.ref b1)), (.val (.ref s_LaunchMode_SINGLE_TASK)), (.val (.int (0 : Int32))), .unset, .unset, .unset]) rfl kont) ?_
      refine own_st (T' := T11) (f' := (mkF m 58 #[(.val (.int x0)), (.val (.int x1)), (.val (.ref b1)), (.val (.ref s_LaunchMode_SINGLE_TASK)), (.val (.int (0 : Int32))), .unset, .unset, .unset] [(.ref s_LaunchMode_SINGLE_TASK)])) (fun _ kont => XS.aloadN X11.here hx rfl (hb hby at_57) rfl rfl kont) ?_
      refine own_st (T' := T11) (f' := (mkF m 60 #[(.val (.int x0)), (.val (.int x1)), (.val (.ref b1)), (.val (.ref s_LaunchMode_SINGLE_TASK)), (.val (.int (0 : Int32))), .unset, .unset, .unset] [(.int (0 : Int32)), (.ref s_LaunchMode_SINGLE_TASK)])) (fun _ kont => XS.iload X11.here hx rfl (hb hby at_58) rfl kont) ?_
      obtain ⟨v23, T23, L23, hQ23, X23, st23⟩ := own_callV X11 hx hZ e11 hown (hw _ (List.mem_of_getElem? (i := 15) rfl)) (hw _ (List.mem_of_getElem? (i := 16) rfl)) (hw _ (List.mem_of_getElem? (i := 18) rfl)) (hw _ (List.mem_of_getElem? (i := 17) rfl)) (by decide) (b := s_LaunchMode_SINGLE_TASK) (E_LaunchMode_SINGLE_TASK.ext EX11) (hw _ (List.mem_of_getElem? (i := 19) rfl)) (hw _ (List.mem_of_getElem? (i := 3) rfl)) (own_k1_8 l Z a0 hw s_LaunchMode_SINGLE_TASK h11 (E_LaunchMode_SINGLE_TASK.ext EX11) (F_LaunchMode_SINGLE_TASK_ordinal.ext EX11)) (g := (mkF m 60 #[(.val (.int x0)), (.val (.int x1)), (.val (.ref b1)), (.val (.ref s_LaunchMode_SINGLE_TASK)), (.val (.int (0 : Int32))), .unset, .unset, .unset] [(.int (0 : Int32)), (.ref s_LaunchMode_SINGLE_TASK)])) rfl (by rw [hml]; rfl) rfl (argsL := [(.int (0 : Int32))]) (rest := []) rfl (lenOf own_pd2 rfl) rfl (hb hby at_60) (Nat.le_of_ble_eq_true rfl) (Nat.le_of_ble_eq_true rfl) (Nat.le_of_ble_eq_true rfl) (Nat.le_of_ble_eq_true rfl)
      obtain ⟨rfl, rfl, e23⟩ := hQ23
      rw [List.append_nil] at X23
      refine own_st (T' := T23) (f' := (mkF m 63 #[(.val (.int x0)), (.val (.int x1)), (.val (.ref b1)), (.val (.ref s_LaunchMode_SINGLE_TASK)), (.val (.int (0 : Int32))), .unset, .unset, .unset] [(.int (1 : Int32))])) st23 ?_
      refine own_st (T' := T23) (f' := (mkF m 65 #[(.val (.int x0)), (.val (.int x1)), (.val (.ref b1)), (.val (.ref s_LaunchMode_SINGLE_TASK)), (.val (.int (0 : Int32))), (.val (.int (1 : Int32))), .unset, .unset] [])) (fun _ kont => XS.istore X23.here hx rfl (hb hby at_63) rfl (l' := #[(.val (.int x0)), (.val (.int x1)), (.val (.ref b1)), (.val (.ref s_LaunchMode_SINGLE_TASK)), (.val (.int (0 : Int32))), (.val (.int (1 : Int32))), .unset, .unset]) rfl kont) ?_
      refine own_st (T' := T23) (f' := (mkF m 66 #[(.val (.int x0)), (.val (.int x1)), (.val (.ref b1)), (.val (.ref s_LaunchMode_SINGLE_TASK)), (.val (.int (0 : Int32))), (.val (.int (1 : Int32))), .unset, .unset] [(.ref s_LaunchMode_SINGLE_TASK)])) (fun _ kont => XS.aloadN X23.here hx rfl (hb hby at_65) rfl rfl kont) ?_
      obtain ⟨v24, T24, L24, hQ24, X24, st24⟩ := own_callV X23 hx hZ e23 hown (hw _ (List.mem_of_getElem? (i := 29) rfl)) (hw _ (List.mem_of_getElem? (i := 30) rfl)) (hw _ (List.mem_of_getElem? (i := 32) rfl)) (hw _ (List.mem_of_getElem? (i := 31) rfl)) (by decide) (b := s_LaunchMode_SINGLE_TASK) (E_LaunchMode_SINGLE_TASK.ext EX11) (hw _ (List.mem_of_getElem? (i := 33) rfl)) (hw _ (List.mem_of_getElem? (i := 3) rfl)) (own_k3_10 l Z a0 hw s_LaunchMode_SINGLE_TASK h11 (F_LaunchMode_SINGLE_TASK_keepsOneInstance.ext EX11)) (g := (mkF m 66 #[(.val (.int x0)), (.val (.int x1)), (.val (.ref b1)), (.val (.ref s_LaunchMode_SINGLE_TASK)), (.val (.int (0 : Int32))), (.val (.int (1 : Int32))), .unset, .unset] [(.ref s_LaunchMode_SINGLE_TASK)])) rfl (by rw [hml]; rfl) rfl (argsL := []) (rest := []) rfl (lenOf own_pd1 rfl) rfl (hb hby at_66) (Nat.le_of_ble_eq_true rfl) (Nat.le_of_ble_eq_true rfl) (Nat.le_of_ble_eq_true rfl) (Nat.le_of_ble_eq_true rfl)
      obtain ⟨rfl, rfl, e24⟩ := hQ24
      rw [List.append_nil] at X24
      refine own_st (T' := T24) (f' := (mkF m 69 #[(.val (.int x0)), (.val (.int x1)), (.val (.ref b1)), (.val (.ref s_LaunchMode_SINGLE_TASK)), (.val (.int (0 : Int32))), (.val (.int (1 : Int32))), .unset, .unset] [(.int (1 : Int32))])) st24 ?_
      refine own_st (T' := T24) (f' := (mkF m 71 #[(.val (.int x0)), (.val (.int x1)), (.val (.ref b1)), (.val (.ref s_LaunchMode_SINGLE_TASK)), (.val (.int (0 : Int32))), (.val (.int (1 : Int32))), (.val (.int (1 : Int32))), .unset] [])) (fun _ kont => XS.istore X24.here hx rfl (hb hby at_69) rfl (l' := #[(.val (.int x0)), (.val (.int x1)), (.val (.ref b1)), (.val (.ref s_LaunchMode_SINGLE_TASK)), (.val (.int (0 : Int32))), (.val (.int (1 : Int32))), (.val (.int (1 : Int32))), .unset]) rfl kont) ?_
      refine own_st (T' := T24) (f' := (mkF m 73 #[(.val (.int x0)), (.val (.int x1)), (.val (.ref b1)), (.val (.ref s_LaunchMode_SINGLE_TASK)), (.val (.int (0 : Int32))), (.val (.int (1 : Int32))), (.val (.int (1 : Int32))), .unset] [(.int (0 : Int32))])) (fun _ kont => XS.iload X24.here hx rfl (hb hby at_71) rfl kont) ?_
      refine own_st (T' := T24) (f' := (mkF m 76 #[(.val (.int x0)), (.val (.int x1)), (.val (.ref b1)), (.val (.ref s_LaunchMode_SINGLE_TASK)), (.val (.int (0 : Int32))), (.val (.int (1 : Int32))), (.val (.int (1 : Int32))), .unset] [])) (fun _ kont => XS.ifNo X24.here hx rfl (hb hby at_73) rfl ((if0 _ _).trans (teq (by decide : (0 : Int32) = (0 : Int32))).2) kont) ?_
      refine own_st (T' := T24) (f' := (mkF m 78 #[(.val (.int x0)), (.val (.int x1)), (.val (.ref b1)), (.val (.ref s_LaunchMode_SINGLE_TASK)), (.val (.int (0 : Int32))), (.val (.int (1 : Int32))), (.val (.int (1 : Int32))), .unset] [(.int (1 : Int32))])) (fun _ kont => XS.iload X24.here hx rfl (hb hby at_76) rfl kont) ?_
      refine own_st (T' := T24) (f' := (mkF m 80 #[(.val (.int x0)), (.val (.int x1)), (.val (.ref b1)), (.val (.ref s_LaunchMode_SINGLE_TASK)), (.val (.int (0 : Int32))), (.val (.int (1 : Int32))), (.val (.int (1 : Int32))), (.val (.int (1 : Int32)))] [])) (fun _ kont => XS.istore X24.here hx rfl (hb hby at_78) rfl (l' := #[(.val (.int x0)), (.val (.int x1)), (.val (.ref b1)), (.val (.ref s_LaunchMode_SINGLE_TASK)), (.val (.int (0 : Int32))), (.val (.int (1 : Int32))), (.val (.int (1 : Int32))), (.val (.int (1 : Int32)))]) rfl kont) ?_
      refine own_st (T' := T24) (f' := (mkF m 102 #[(.val (.int x0)), (.val (.int x1)), (.val (.ref b1)), (.val (.ref s_LaunchMode_SINGLE_TASK)), (.val (.int (0 : Int32))), (.val (.int (1 : Int32))), (.val (.int (1 : Int32))), (.val (.int (1 : Int32)))] [])) (fun _ kont => XS.goto X24.here hx rfl (pc0 := 80) (pc' := 102) rfl (hb hby at_80) (by decide) (by decide) kont) ?_
      refine own_st (T' := T24) (f' := (mkF m 104 #[(.val (.int x0)), (.val (.int x1)), (.val (.ref b1)), (.val (.ref s_LaunchMode_SINGLE_TASK)), (.val (.int (0 : Int32))), (.val (.int (1 : Int32))), (.val (.int (1 : Int32))), (.val (.int (1 : Int32)))] [(.int (1 : Int32))])) (fun _ kont => XS.iload X24.here hx rfl (hb hby at_102) rfl kont) ?_
      refine own_st (T' := T24) (f' := (mkF m 106 #[(.val (.int x0)), (.val (.int x1)), (.val (.ref b1)), (.val (.ref s_LaunchMode_SINGLE_TASK)), (.val (.int (0 : Int32))), (.val (.int (1 : Int32))), (.val (.int (1 : Int32))), (.val (.int (1 : Int32)))] [(.int (1 : Int32)), (.int (1 : Int32))])) (fun _ kont => XS.iload X24.here hx rfl (hb hby at_104) rfl kont) ?_
      refine own_st (T' := T24) (f' := (mkF m 109 #[(.val (.int x0)), (.val (.int x1)), (.val (.ref b1)), (.val (.ref s_LaunchMode_SINGLE_TASK)), (.val (.int (0 : Int32))), (.val (.int (1 : Int32))), (.val (.int (1 : Int32))), (.val (.int (1 : Int32)))] [])) (fun _ kont => XS.icmpNo X24.here hx rfl (hb hby at_106) rfl (teq (by decide : (1 : Int32) = (1 : Int32))).2 kont) ?_
      refine own_st (T' := T24) (f' := (mkF m 110 #[(.val (.int x0)), (.val (.int x1)), (.val (.ref b1)), (.val (.ref s_LaunchMode_SINGLE_TASK)), (.val (.int (0 : Int32))), (.val (.int (1 : Int32))), (.val (.int (1 : Int32))), (.val (.int (1 : Int32)))] [(.int (1 : Int32))])) (fun _ kont => XS.iconst X24.here hx rfl (hb hby at_109) kont) ?_
      refine own_st (T' := T24) (f' := (mkF m 114 #[(.val (.int x0)), (.val (.int x1)), (.val (.ref b1)), (.val (.ref s_LaunchMode_SINGLE_TASK)), (.val (.int (0 : Int32))), (.val (.int (1 : Int32))), (.val (.int (1 : Int32))), (.val (.int (1 : Int32)))] [(.int (1 : Int32))])) (fun _ kont => XS.goto X24.here hx rfl (pc0 := 110) (pc' := 114) rfl (hb hby at_110) (by decide) (by decide) kont) ?_
      exact own_retN X24 hx hlk (t := .boolean) hret (by simp) (hb hby at_114) ⟨rfl, N_11⟩ (by decide) (by decide)
    · refine own_st (T' := T11) (f' := (mkF m 50 #[(.val (.int x0)), (.val (.int x1)), (.val (.ref b1)), (.val (.ref s_LaunchMode_SINGLE_TASK)), .unset, .unset, .unset, .unset] [])) (fun _ kont => XS.ifNo X11.here hx rfl (hb hby at_47) rfl ((if0 _ _).trans (feq c0).1) kont) ?_
      refine own_st (T' := T11) (f' := (mkF m 51 #[(.val (.int x0)), (.val (.int x1)), (.val (.ref b1)), (.val (.ref s_LaunchMode_SINGLE_TASK)), .unset, .unset, .unset, .unset] [(.int (1 : Int32))])) (fun _ kont => XS.iconst X11.here hx rfl (hb hby at_50) kont) ?_
      refine own_st (T' := T11) (f' := (mkF m 55 #[(.val (.int x0)), (.val (.int x1)), (.val (.ref b1)), (.val (.ref s_LaunchMode_SINGLE_TASK)), .unset, .unset, .unset, .unset] [(.int (1 : Int32))])) (fun _ kont => XS.goto X11.here hx rfl (pc0 := 51) (pc' := 55) rfl (hb hby at_51) (by decide) (by decide) kont) ?_
      refine own_st (T' := T11) (f' := (mkF m 57 #[(.val (.int x0)), (.val (.int x1)), (.val (.ref b1)), (.val (.ref s_LaunchMode_SINGLE_TASK)), (.val (.int (1 : Int32))), .unset, .unset, .unset] [])) (fun _ kont => XS.istore X11.here hx rfl (hb hby at_55) rfl (l' := #[(.val (.int x0)), (.val (.int x1)), (.val (.ref b1)), (.val (.ref s_LaunchMode_SINGLE_TASK)), (.val (.int (1 : Int32))), .unset, .unset, .unset]) rfl kont) ?_
      refine own_st (T' := T11) (f' := (mkF m 58 #[(.val (.int x0)), (.val (.int x1)), (.val (.ref b1)), (.val (.ref s_LaunchMode_SINGLE_TASK)), (.val (.int (1 : Int32))), .unset, .unset, .unset] [(.ref s_LaunchMode_SINGLE_TASK)])) (fun _ kont => XS.aloadN X11.here hx rfl (hb hby at_57) rfl rfl kont) ?_
      refine own_st (T' := T11) (f' := (mkF m 60 #[(.val (.int x0)), (.val (.int x1)), (.val (.ref b1)), (.val (.ref s_LaunchMode_SINGLE_TASK)), (.val (.int (1 : Int32))), .unset, .unset, .unset] [(.int (1 : Int32)), (.ref s_LaunchMode_SINGLE_TASK)])) (fun _ kont => XS.iload X11.here hx rfl (hb hby at_58) rfl kont) ?_
      obtain ⟨v25, T25, L25, hQ25, X25, st25⟩ := own_callV X11 hx hZ e11 hown (hw _ (List.mem_of_getElem? (i := 15) rfl)) (hw _ (List.mem_of_getElem? (i := 16) rfl)) (hw _ (List.mem_of_getElem? (i := 18) rfl)) (hw _ (List.mem_of_getElem? (i := 17) rfl)) (by decide) (b := s_LaunchMode_SINGLE_TASK) (E_LaunchMode_SINGLE_TASK.ext EX11) (hw _ (List.mem_of_getElem? (i := 19) rfl)) (hw _ (List.mem_of_getElem? (i := 3) rfl)) (own_k1_11 l Z a0 hw s_LaunchMode_SINGLE_TASK h11 (E_LaunchMode_SINGLE_TASK.ext EX11) (F_LaunchMode_SINGLE_TASK_ordinal.ext EX11)) (g := (mkF m 60 #[(.val (.int x0)), (.val (.int x1)), (.val (.ref b1)), (.val (.ref s_LaunchMode_SINGLE_TASK)), (.val (.int (1 : Int32))), .unset, .unset, .unset] [(.int (1 : Int32)), (.ref s_LaunchMode_SINGLE_TASK)])) rfl (by rw [hml]; rfl) rfl (argsL := [(.int (1 : Int32))]) (rest := []) rfl (lenOf own_pd2 rfl) rfl (hb hby at_60) (Nat.le_of_ble_eq_true rfl) (Nat.le_of_ble_eq_true rfl) (Nat.le_of_ble_eq_true rfl) (Nat.le_of_ble_eq_true rfl)
      obtain ⟨rfl, rfl, e25⟩ := hQ25
      rw [List.append_nil] at X25
      refine own_st (T' := T25) (f' := (mkF m 63 #[(.val (.int x0)), (.val (.int x1)), (.val (.ref b1)), (.val (.ref s_LaunchMode_SINGLE_TASK)), (.val (.int (1 : Int32))), .unset, .unset, .unset] [(.int (0 : Int32))])) st25 ?_
      refine own_st (T' := T25) (f' := (mkF m 65 #[(.val (.int x0)), (.val (.int x1)), (.val (.ref b1)), (.val (.ref s_LaunchMode_SINGLE_TASK)), (.val (.int (1 : Int32))), (.val (.int (0 : Int32))), .unset, .unset] [])) (fun _ kont => XS.istore X25.here hx rfl (hb hby at_63) rfl (l' := #[(.val (.int x0)), (.val (.int x1)), (.val (.ref b1)), (.val (.ref s_LaunchMode_SINGLE_TASK)), (.val (.int (1 : Int32))), (.val (.int (0 : Int32))), .unset, .unset]) rfl kont) ?_
      refine own_st (T' := T25) (f' := (mkF m 66 #[(.val (.int x0)), (.val (.int x1)), (.val (.ref b1)), (.val (.ref s_LaunchMode_SINGLE_TASK)), (.val (.int (1 : Int32))), (.val (.int (0 : Int32))), .unset, .unset] [(.ref s_LaunchMode_SINGLE_TASK)])) (fun _ kont => XS.aloadN X25.here hx rfl (hb hby at_65) rfl rfl kont) ?_
      obtain ⟨v26, T26, L26, hQ26, X26, st26⟩ := own_callV X25 hx hZ e25 hown (hw _ (List.mem_of_getElem? (i := 29) rfl)) (hw _ (List.mem_of_getElem? (i := 30) rfl)) (hw _ (List.mem_of_getElem? (i := 32) rfl)) (hw _ (List.mem_of_getElem? (i := 31) rfl)) (by decide) (b := s_LaunchMode_SINGLE_TASK) (E_LaunchMode_SINGLE_TASK.ext EX11) (hw _ (List.mem_of_getElem? (i := 33) rfl)) (hw _ (List.mem_of_getElem? (i := 3) rfl)) (own_k3_10 l Z a0 hw s_LaunchMode_SINGLE_TASK h11 (F_LaunchMode_SINGLE_TASK_keepsOneInstance.ext EX11)) (g := (mkF m 66 #[(.val (.int x0)), (.val (.int x1)), (.val (.ref b1)), (.val (.ref s_LaunchMode_SINGLE_TASK)), (.val (.int (1 : Int32))), (.val (.int (0 : Int32))), .unset, .unset] [(.ref s_LaunchMode_SINGLE_TASK)])) rfl (by rw [hml]; rfl) rfl (argsL := []) (rest := []) rfl (lenOf own_pd1 rfl) rfl (hb hby at_66) (Nat.le_of_ble_eq_true rfl) (Nat.le_of_ble_eq_true rfl) (Nat.le_of_ble_eq_true rfl) (Nat.le_of_ble_eq_true rfl)
      obtain ⟨rfl, rfl, e26⟩ := hQ26
      rw [List.append_nil] at X26
      refine own_st (T' := T26) (f' := (mkF m 69 #[(.val (.int x0)), (.val (.int x1)), (.val (.ref b1)), (.val (.ref s_LaunchMode_SINGLE_TASK)), (.val (.int (1 : Int32))), (.val (.int (0 : Int32))), .unset, .unset] [(.int (1 : Int32))])) st26 ?_
      refine own_st (T' := T26) (f' := (mkF m 71 #[(.val (.int x0)), (.val (.int x1)), (.val (.ref b1)), (.val (.ref s_LaunchMode_SINGLE_TASK)), (.val (.int (1 : Int32))), (.val (.int (0 : Int32))), (.val (.int (1 : Int32))), .unset] [])) (fun _ kont => XS.istore X26.here hx rfl (hb hby at_69) rfl (l' := #[(.val (.int x0)), (.val (.int x1)), (.val (.ref b1)), (.val (.ref s_LaunchMode_SINGLE_TASK)), (.val (.int (1 : Int32))), (.val (.int (0 : Int32))), (.val (.int (1 : Int32))), .unset]) rfl kont) ?_
      refine own_st (T' := T26) (f' := (mkF m 73 #[(.val (.int x0)), (.val (.int x1)), (.val (.ref b1)), (.val (.ref s_LaunchMode_SINGLE_TASK)), (.val (.int (1 : Int32))), (.val (.int (0 : Int32))), (.val (.int (1 : Int32))), .unset] [(.int (1 : Int32))])) (fun _ kont => XS.iload X26.here hx rfl (hb hby at_71) rfl kont) ?_
      refine own_st (T' := T26) (f' := (mkF m 83 #[(.val (.int x0)), (.val (.int x1)), (.val (.ref b1)), (.val (.ref s_LaunchMode_SINGLE_TASK)), (.val (.int (1 : Int32))), (.val (.int (0 : Int32))), (.val (.int (1 : Int32))), .unset] [])) (fun _ kont => XS.ifYes X26.here hx rfl (pc0 := 73) (pc' := 83) rfl (hb hby at_73) rfl ((if0 _ _).trans (feq (by decide : ¬ ((1 : Int32) = (0 : Int32)))).2) (by decide) (by decide) kont) ?_
      refine own_st (T' := T26) (f' := (mkF m 85 #[(.val (.int x0)), (.val (.int x1)), (.val (.ref b1)), (.val (.ref s_LaunchMode_SINGLE_TASK)), (.val (.int (1 : Int32))), (.val (.int (0 : Int32))), (.val (.int (1 : Int32))), .unset] [(.int (1 : Int32))])) (fun _ kont => XS.iload X26.here hx rfl (hb hby at_83) rfl kont) ?_
      refine own_st (T' := T26) (f' := (mkF m 88 #[(.val (.int x0)), (.val (.int x1)), (.val (.ref b1)), (.val (.ref s_LaunchMode_SINGLE_TASK)), (.val (.int (1 : Int32))), (.val (.int (0 : Int32))), (.val (.int (1 : Int32))), .unset] [])) (fun _ kont => XS.ifNo X26.here hx rfl (hb hby at_85) rfl ((if0 _ _).trans (feq (by decide : ¬ ((1 : Int32) = (0 : Int32)))).1) kont) ?_
      refine own_st (T' := T26) (f' := (mkF m 89 #[(.val (.int x0)), (.val (.int x1)), (.val (.ref b1)), (.val (.ref s_LaunchMode_SINGLE_TASK)), (.val (.int (1 : Int32))), (.val (.int (0 : Int32))), (.val (.int (1 : Int32))), .unset] [(.ref s_LaunchMode_SINGLE_TASK)])) (fun _ kont => XS.aloadN X26.here hx rfl (hb hby at_88) rfl rfl kont) ?_
      obtain ⟨T27, X27, e27, st27⟩ := getS2 X26 hx hZ hown (host := "") (Or.inl (hw _ (List.mem_of_getElem? (i := 8) rfl))) Via.refl e26 (S_LaunchMode_SINGLE_TASK.ext EX11) (g := (mkF m 89 #[(.val (.int x0)), (.val (.int x1)), (.val (.ref b1)), (.val (.ref s_LaunchMode_SINGLE_TASK)), (.val (.int (1 : Int32))), (.val (.int (0 : Int32))), (.val (.int (1 : Int32))), .unset] [(.ref s_LaunchMode_SINGLE_TASK)])) rfl (hb hby at_89)
      refine own_st (T' := T27) (f' := (mkF m 92 #[(.val (.int x0)), (.val (.int x1)), (.val (.ref b1)), (.val (.ref s_LaunchMode_SINGLE_TASK)), (.val (.int (1 : Int32))), (.val (.int (0 : Int32))), (.val (.int (1 : Int32))), .unset] [(.ref s_LaunchMode_SINGLE_TASK), (.ref s_LaunchMode_SINGLE_TASK)])) st27 ?_
      refine own_st (T' := T27) (f' := (mkF m 99 #[(.val (.int x0)), (.val (.int x1)), (.val (.ref b1)), (.val (.ref s_LaunchMode_SINGLE_TASK)), (.val (.int (1 : Int32))), (.val (.int (0 : Int32))), (.val (.int (1 : Int32))), .unset] [])) (fun _ kont => Jvm.RoadKit.acmp (g := (mkF m 92 #[(.val (.int x0)), (.val (.int x1)), (.val (.ref b1)), (.val (.ref s_LaunchMode_SINGLE_TASK)), (.val (.int (1 : Int32))), (.val (.int (0 : Int32))), (.val (.int (1 : Int32))), .unset] [(.ref s_LaunchMode_SINGLE_TASK), (.ref s_LaunchMode_SINGLE_TASK)])) X27 hx rfl rfl rfl (pc0 := 92) (pc' := 99) (same := true) rfl (hb hby at_92) rfl (decide_eq_true (congrArg Value.ref (rfl : s_LaunchMode_SINGLE_TASK = s_LaunchMode_SINGLE_TASK))) (by decide) (by decide) kont) ?_
      refine own_st (T' := T27) (f' := (mkF m 100 #[(.val (.int x0)), (.val (.int x1)), (.val (.ref b1)), (.val (.ref s_LaunchMode_SINGLE_TASK)), (.val (.int (1 : Int32))), (.val (.int (0 : Int32))), (.val (.int (1 : Int32))), .unset] [(.int (0 : Int32))])) (fun _ kont => XS.iconst X27.here hx rfl (hb hby at_99) kont) ?_
      refine own_st (T' := T27) (f' := (mkF m 102 #[(.val (.int x0)), (.val (.int x1)), (.val (.ref b1)), (.val (.ref s_LaunchMode_SINGLE_TASK)), (.val (.int (1 : Int32))), (.val (.int (0 : Int32))), (.val (.int (1 : Int32))), (.val (.int (0 : Int32)))] [])) (fun _ kont => XS.istore X27.here hx rfl (hb hby at_100) rfl (l' := #[(.val (.int x0)), (.val (.int x1)), (.val (.ref b1)), (.val (.ref s_LaunchMode_SINGLE_TASK)), (.val (.int (1 : Int32))), (.val (.int (0 : Int32))), (.val (.int (1 : Int32))), (.val (.int (0 : Int32)))]) rfl kont) ?_
      refine own_st (T' := T27) (f' := (mkF m 104 #[(.val (.int x0)), (.val (.int x1)), (.val (.ref b1)), (.val (.ref s_LaunchMode_SINGLE_TASK)), (.val (.int (1 : Int32))), (.val (.int (0 : Int32))), (.val (.int (1 : Int32))), (.val (.int (0 : Int32)))] [(.int (0 : Int32))])) (fun _ kont => XS.iload X27.here hx rfl (hb hby at_102) rfl kont) ?_
      refine own_st (T' := T27) (f' := (mkF m 106 #[(.val (.int x0)), (.val (.int x1)), (.val (.ref b1)), (.val (.ref s_LaunchMode_SINGLE_TASK)), (.val (.int (1 : Int32))), (.val (.int (0 : Int32))), (.val (.int (1 : Int32))), (.val (.int (0 : Int32)))] [(.int (0 : Int32)), (.int (0 : Int32))])) (fun _ kont => XS.iload X27.here hx rfl (hb hby at_104) rfl kont) ?_
      refine own_st (T' := T27) (f' := (mkF m 109 #[(.val (.int x0)), (.val (.int x1)), (.val (.ref b1)), (.val (.ref s_LaunchMode_SINGLE_TASK)), (.val (.int (1 : Int32))), (.val (.int (0 : Int32))), (.val (.int (1 : Int32))), (.val (.int (0 : Int32)))] [])) (fun _ kont => XS.icmpNo X27.here hx rfl (hb hby at_106) rfl (teq (by decide : (0 : Int32) = (0 : Int32))).2 kont) ?_
      refine own_st (T' := T27) (f' := (mkF m 110 #[(.val (.int x0)), (.val (.int x1)), (.val (.ref b1)), (.val (.ref s_LaunchMode_SINGLE_TASK)), (.val (.int (1 : Int32))), (.val (.int (0 : Int32))), (.val (.int (1 : Int32))), (.val (.int (0 : Int32)))] [(.int (1 : Int32))])) (fun _ kont => XS.iconst X27.here hx rfl (hb hby at_109) kont) ?_
      refine own_st (T' := T27) (f' := (mkF m 114 #[(.val (.int x0)), (.val (.int x1)), (.val (.ref b1)), (.val (.ref s_LaunchMode_SINGLE_TASK)), (.val (.int (1 : Int32))), (.val (.int (0 : Int32))), (.val (.int (1 : Int32))), (.val (.int (0 : Int32)))] [(.int (1 : Int32))])) (fun _ kont => XS.goto X27.here hx rfl (pc0 := 110) (pc' := 114) rfl (hb hby at_110) (by decide) (by decide) kont) ?_
      exact own_retN X27 hx hlk (t := .boolean) hret (by simp) (hb hby at_114) ⟨rfl, N_11⟩ (by decide) (by decide)
  · skip  -- i = 3
    obtain ⟨cl28, Ar28, q28, S28, N28, H28, G28⟩ := V11
    have hin28 : ¬ ((3 : Int32) < 0 ∨ cl28.slots.size ≤ ((3 : Int32)).toNatClampNeg) := inb_of S28 ⟨by decide, by decide⟩
    refine own_st (T' := T11) (f' := (mkF m 43 #[(.val (.int x0)), (.val (.int x1)), (.val (.ref b1)), .unset, .unset, .unset, .unset, .unset] [(.ref s_LaunchMode_SINGLE_INSTANCE)])) (fun _ kont => X11.aaload hx (j := (3 : Int32)) (v := (.ref s_LaunchMode_SINGLE_INSTANCE)) (by rw [e11]; exact Ar28.1) (State.isArrayOf_alike hZ.alike Ar28.2.1) rfl Ar28.2.2 hin28 (Has.at H28 hin28 rfl) (g := (mkF m 42 #[(.val (.int x0)), (.val (.int x1)), (.val (.ref b1)), .unset, .unset, .unset, .unset, .unset] [(.int (3 : Int32)), (.ref b1)])) rfl rfl (hb hby at_42) _ kont) ?_
    refine own_st (T' := T11) (f' := (mkF m 44 #[(.val (.int x0)), (.val (.int x1)), (.val (.ref b1)), (.val (.ref s_LaunchMode_SINGLE_INSTANCE)), .unset, .unset, .unset, .unset] [])) (fun _ kont => XS.astoreN X11.here hx rfl (hb hby at_43) rfl rfl (l' := #[(.val (.int x0)), (.val (.int x1)), (.val (.ref b1)), (.val (.ref s_LaunchMode_SINGLE_INSTANCE)), .unset, .unset, .unset, .unset]) rfl kont) ?_
    refine own_st (T' := T11) (f' := (mkF m 45 #[(.val (.int x0)), (.val (.int x1)), (.val (.ref b1)), (.val (.ref s_LaunchMode_SINGLE_INSTANCE)), .unset, .unset, .unset, .unset] [(.int x1)])) (fun _ kont => XS.iloadN X11.here hx rfl (hb hby at_44) rfl kont) ?_
    refine own_st (T' := T11) (f' := (mkF m 46 #[(.val (.int x0)), (.val (.int x1)), (.val (.ref b1)), (.val (.ref s_LaunchMode_SINGLE_INSTANCE)), .unset, .unset, .unset, .unset] [(.int (1 : Int32)), (.int x1)])) (fun _ kont => XS.iconst X11.here hx rfl (hb hby at_45) kont) ?_
    refine own_st (T' := T11) (f' := (mkF m 47 #[(.val (.int x0)), (.val (.int x1)), (.val (.ref b1)), (.val (.ref s_LaunchMode_SINGLE_INSTANCE)), .unset, .unset, .unset, .unset] [(.int (x1 &&& (1 : Int32)))])) (fun _ kont => XS.iand X11.here hx rfl (hb hby at_46) rfl kont) ?_
    by_cases c0 : (x1 &&& (1 : Int32)) = (0 : Int32)
    · refine own_st (T' := T11) (f' := (mkF m 54 #[(.val (.int x0)), (.val (.int x1)), (.val (.ref b1)), (.val (.ref s_LaunchMode_SINGLE_INSTANCE)), .unset, .unset, .unset, .unset] [])) (fun _ kont => XS.ifYes X11.here hx rfl (pc0 := 47) (pc' := 54) rfl (hb hby at_47) rfl ((if0 _ _).trans (teq c0).1) (by decide) (by decide) kont) ?_
      refine own_st (T' := T11) (f' := (mkF m 55 #[(.val (.int x0)), (.val (.int x1)), (.val (.ref b1)), (.val (.ref s_LaunchMode_SINGLE_INSTANCE)), .unset, .unset, .unset, .unset] [(.int (0 : Int32))])) (fun _ kont => XS.iconst X11.here hx rfl (hb hby at_54) kont) ?_
      refine own_st (T' := T11) (f' := (mkF m 57 #[(.val (.int x0)), (.val (.int x1)), (.val (.ref b1)), (.val (.ref s_LaunchMode_SINGLE_INSTANCE)), (.val (.int (0 : Int32))), .unset, .unset, .unset] [])) (fun _ kont => XS.istore X11.here hx rfl (hb hby at_55) rfl (l' := #[(.val (.int x0)), (.val (.int x1)), (.val (.ref b1)), (.val (.ref s_LaunchMode_SINGLE_INSTANCE)), (.val (.int (0 : Int32))), .unset, .unset, .unset]) rfl kont) ?_
      refine own_st (T' := T11) (f' := (mkF m 58 #[(.val (.int x0)), (.val (.int x1)), (.val (.ref b1)), (.val (.ref s_LaunchMode_SINGLE_INSTANCE)), (.val (.int (0 : Int32))), .unset, .unset, .unset] [(.ref s_LaunchMode_SINGLE_INSTANCE)])) (fun _ kont => XS.aloadN X11.here hx rfl (hb hby at_57) rfl rfl kont) ?_
      refine own_st (T' := T11) (f' := (mkF m 60 #[(.val (.int x0)), (.val (.int x1)), (.val (.ref b1)), (.val (.ref s_LaunchMode_SINGLE_INSTANCE)), (.val (.int (0 : Int32))), .unset, .unset, .unset] [(.int (0 : Int32)), (.ref s_LaunchMode_SINGLE_INSTANCE)])) (fun _ kont => XS.iload X11.here hx rfl (hb hby at_58) rfl kont) ?_
      obtain ⟨v29, T29, L29, hQ29, X29, st29⟩ := own_callV X11 hx hZ e11 hown (hw _ (List.mem_of_getElem? (i := 15) rfl)) (hw _ (List.mem_of_getElem? (i := 16) rfl)) (hw _ (List.mem_of_getElem? (i := 18) rfl)) (hw _ (List.mem_of_getElem? (i := 17) rfl)) (by decide) (b := s_LaunchMode_SINGLE_INSTANCE) (E_LaunchMode_SINGLE_INSTANCE.ext EX11) (hw _ (List.mem_of_getElem? (i := 19) rfl)) (hw _ (List.mem_of_getElem? (i := 3) rfl)) (own_k1_12 l Z a0 hw s_LaunchMode_SINGLE_INSTANCE h11 (E_LaunchMode_SINGLE_INSTANCE.ext EX11) (F_LaunchMode_SINGLE_INSTANCE_ordinal.ext EX11)) (g := (mkF m 60 #[(.val (.int x0)), (.val (.int x1)), (.val (.ref b1)), (.val (.ref s_LaunchMode_SINGLE_INSTANCE)), (.val (.int (0 : Int32))), .unset, .unset, .unset] [(.int (0 : Int32)), (.ref s_LaunchMode_SINGLE_INSTANCE)])) rfl (by rw [hml]; rfl) rfl (argsL := [(.int (0 : Int32))]) (rest := []) rfl (lenOf own_pd2 rfl) rfl (hb hby at_60) (Nat.le_of_ble_eq_true rfl) (Nat.le_of_ble_eq_true rfl) (Nat.le_of_ble_eq_true rfl) (Nat.le_of_ble_eq_true rfl)
      obtain ⟨rfl, rfl, e29⟩ := hQ29
      rw [List.append_nil] at X29
      refine own_st (T' := T29) (f' := (mkF m 63 #[(.val (.int x0)), (.val (.int x1)), (.val (.ref b1)), (.val (.ref s_LaunchMode_SINGLE_INSTANCE)), (.val (.int (0 : Int32))), .unset, .unset, .unset] [(.int (1 : Int32))])) st29 ?_
      refine own_st (T' := T29) (f' := (mkF m 65 #[(.val (.int x0)), (.val (.int x1)), (.val (.ref b1)), (.val (.ref s_LaunchMode_SINGLE_INSTANCE)), (.val (.int (0 : Int32))), (.val (.int (1 : Int32))), .unset, .unset] [])) (fun _ kont => XS.istore X29.here hx rfl (hb hby at_63) rfl (l' := #[(.val (.int x0)), (.val (.int x1)), (.val (.ref b1)), (.val (.ref s_LaunchMode_SINGLE_INSTANCE)), (.val (.int (0 : Int32))), (.val (.int (1 : Int32))), .unset, .unset]) rfl kont) ?_
      refine own_st (T' := T29) (f' := (mkF m 66 #[(.val (.int x0)), (.val (.int x1)), (.val (.ref b1)), (.val (.ref s_LaunchMode_SINGLE_INSTANCE)), (.val (.int (0 : Int32))), (.val (.int (1 : Int32))), .unset, .unset] [(.ref s_LaunchMode_SINGLE_INSTANCE)])) (fun _ kont => XS.aloadN X29.here hx rfl (hb hby at_65) rfl rfl kont) ?_
      obtain ⟨v30, T30, L30, hQ30, X30, st30⟩ := own_callV X29 hx hZ e29 hown (hw _ (List.mem_of_getElem? (i := 29) rfl)) (hw _ (List.mem_of_getElem? (i := 30) rfl)) (hw _ (List.mem_of_getElem? (i := 32) rfl)) (hw _ (List.mem_of_getElem? (i := 31) rfl)) (by decide) (b := s_LaunchMode_SINGLE_INSTANCE) (E_LaunchMode_SINGLE_INSTANCE.ext EX11) (hw _ (List.mem_of_getElem? (i := 33) rfl)) (hw _ (List.mem_of_getElem? (i := 3) rfl)) (own_k3_10 l Z a0 hw s_LaunchMode_SINGLE_INSTANCE h11 (F_LaunchMode_SINGLE_INSTANCE_keepsOneInstance.ext EX11)) (g := (mkF m 66 #[(.val (.int x0)), (.val (.int x1)), (.val (.ref b1)), (.val (.ref s_LaunchMode_SINGLE_INSTANCE)), (.val (.int (0 : Int32))), (.val (.int (1 : Int32))), .unset, .unset] [(.ref s_LaunchMode_SINGLE_INSTANCE)])) rfl (by rw [hml]; rfl) rfl (argsL := []) (rest := []) rfl (lenOf own_pd1 rfl) rfl (hb hby at_66) (Nat.le_of_ble_eq_true rfl) (Nat.le_of_ble_eq_true rfl) (Nat.le_of_ble_eq_true rfl) (Nat.le_of_ble_eq_true rfl)
      obtain ⟨rfl, rfl, e30⟩ := hQ30
      rw [List.append_nil] at X30
      refine own_st (T' := T30) (f' := (mkF m 69 #[(.val (.int x0)), (.val (.int x1)), (.val (.ref b1)), (.val (.ref s_LaunchMode_SINGLE_INSTANCE)), (.val (.int (0 : Int32))), (.val (.int (1 : Int32))), .unset, .unset] [(.int (1 : Int32))])) st30 ?_
      refine own_st (T' := T30) (f' := (mkF m 71 #[(.val (.int x0)), (.val (.int x1)), (.val (.ref b1)), (.val (.ref s_LaunchMode_SINGLE_INSTANCE)), (.val (.int (0 : Int32))), (.val (.int (1 : Int32))), (.val (.int (1 : Int32))), .unset] [])) (fun _ kont => XS.istore X30.here hx rfl (hb hby at_69) rfl (l' := #[(.val (.int x0)), (.val (.int x1)), (.val (.ref b1)), (.val (.ref s_LaunchMode_SINGLE_INSTANCE)), (.val (.int (0 : Int32))), (.val (.int (1 : Int32))), (.val (.int (1 : Int32))), .unset]) rfl kont) ?_
      refine own_st (T' := T30) (f' := (mkF m 73 #[(.val (.int x0)), (.val (.int x1)), (.val (.ref b1)), (.val (.ref s_LaunchMode_SINGLE_INSTANCE)), (.val (.int (0 : Int32))), (.val (.int (1 : Int32))), (.val (.int (1 : Int32))), .unset] [(.int (0 : Int32))])) (fun _ kont => XS.iload X30.here hx rfl (hb hby at_71) rfl kont) ?_
      refine own_st (T' := T30) (f' := (mkF m 76 #[(.val (.int x0)), (.val (.int x1)), (.val (.ref b1)), (.val (.ref s_LaunchMode_SINGLE_INSTANCE)), (.val (.int (0 : Int32))), (.val (.int (1 : Int32))), (.val (.int (1 : Int32))), .unset] [])) (fun _ kont => XS.ifNo X30.here hx rfl (hb hby at_73) rfl ((if0 _ _).trans (teq (by decide : (0 : Int32) = (0 : Int32))).2) kont) ?_
      refine own_st (T' := T30) (f' := (mkF m 78 #[(.val (.int x0)), (.val (.int x1)), (.val (.ref b1)), (.val (.ref s_LaunchMode_SINGLE_INSTANCE)), (.val (.int (0 : Int32))), (.val (.int (1 : Int32))), (.val (.int (1 : Int32))), .unset] [(.int (1 : Int32))])) (fun _ kont => XS.iload X30.here hx rfl (hb hby at_76) rfl kont) ?_
      refine own_st (T' := T30) (f' := (mkF m 80 #[(.val (.int x0)), (.val (.int x1)), (.val (.ref b1)), (.val (.ref s_LaunchMode_SINGLE_INSTANCE)), (.val (.int (0 : Int32))), (.val (.int (1 : Int32))), (.val (.int (1 : Int32))), (.val (.int (1 : Int32)))] [])) (fun _ kont => XS.istore X30.here hx rfl (hb hby at_78) rfl (l' := #[(.val (.int x0)), (.val (.int x1)), (.val (.ref b1)), (.val (.ref s_LaunchMode_SINGLE_INSTANCE)), (.val (.int (0 : Int32))), (.val (.int (1 : Int32))), (.val (.int (1 : Int32))), (.val (.int (1 : Int32)))]) rfl kont) ?_
      refine own_st (T' := T30) (f' := (mkF m 102 #[(.val (.int x0)), (.val (.int x1)), (.val (.ref b1)), (.val (.ref s_LaunchMode_SINGLE_INSTANCE)), (.val (.int (0 : Int32))), (.val (.int (1 : Int32))), (.val (.int (1 : Int32))), (.val (.int (1 : Int32)))] [])) (fun _ kont => XS.goto X30.here hx rfl (pc0 := 80) (pc' := 102) rfl (hb hby at_80) (by decide) (by decide) kont) ?_
      refine own_st (T' := T30) (f' := (mkF m 104 #[(.val (.int x0)), (.val (.int x1)), (.val (.ref b1)), (.val (.ref s_LaunchMode_SINGLE_INSTANCE)), (.val (.int (0 : Int32))), (.val (.int (1 : Int32))), (.val (.int (1 : Int32))), (.val (.int (1 : Int32)))] [(.int (1 : Int32))])) (fun _ kont => XS.iload X30.here hx rfl (hb hby at_102) rfl kont) ?_
      refine own_st (T' := T30) (f' := (mkF m 106 #[(.val (.int x0)), (.val (.int x1)), (.val (.ref b1)), (.val (.ref s_LaunchMode_SINGLE_INSTANCE)), (.val (.int (0 : Int32))), (.val (.int (1 : Int32))), (.val (.int (1 : Int32))), (.val (.int (1 : Int32)))] [(.int (1 : Int32)), (.int (1 : Int32))])) (fun _ kont => XS.iload X30.here hx rfl (hb hby at_104) rfl kont) ?_
      refine own_st (T' := T30) (f' := (mkF m 109 #[(.val (.int x0)), (.val (.int x1)), (.val (.ref b1)), (.val (.ref s_LaunchMode_SINGLE_INSTANCE)), (.val (.int (0 : Int32))), (.val (.int (1 : Int32))), (.val (.int (1 : Int32))), (.val (.int (1 : Int32)))] [])) (fun _ kont => XS.icmpNo X30.here hx rfl (hb hby at_106) rfl (teq (by decide : (1 : Int32) = (1 : Int32))).2 kont) ?_
      refine own_st (T' := T30) (f' := (mkF m 110 #[(.val (.int x0)), (.val (.int x1)), (.val (.ref b1)), (.val (.ref s_LaunchMode_SINGLE_INSTANCE)), (.val (.int (0 : Int32))), (.val (.int (1 : Int32))), (.val (.int (1 : Int32))), (.val (.int (1 : Int32)))] [(.int (1 : Int32))])) (fun _ kont => XS.iconst X30.here hx rfl (hb hby at_109) kont) ?_
      refine own_st (T' := T30) (f' := (mkF m 114 #[(.val (.int x0)), (.val (.int x1)), (.val (.ref b1)), (.val (.ref s_LaunchMode_SINGLE_INSTANCE)), (.val (.int (0 : Int32))), (.val (.int (1 : Int32))), (.val (.int (1 : Int32))), (.val (.int (1 : Int32)))] [(.int (1 : Int32))])) (fun _ kont => XS.goto X30.here hx rfl (pc0 := 110) (pc' := 114) rfl (hb hby at_110) (by decide) (by decide) kont) ?_
      exact own_retN X30 hx hlk (t := .boolean) hret (by simp) (hb hby at_114) ⟨rfl, N_11⟩ (by decide) (by decide)
    · refine own_st (T' := T11) (f' := (mkF m 50 #[(.val (.int x0)), (.val (.int x1)), (.val (.ref b1)), (.val (.ref s_LaunchMode_SINGLE_INSTANCE)), .unset, .unset, .unset, .unset] [])) (fun _ kont => XS.ifNo X11.here hx rfl (hb hby at_47) rfl ((if0 _ _).trans (feq c0).1) kont) ?_
      refine own_st (T' := T11) (f' := (mkF m 51 #[(.val (.int x0)), (.val (.int x1)), (.val (.ref b1)), (.val (.ref s_LaunchMode_SINGLE_INSTANCE)), .unset, .unset, .unset, .unset] [(.int (1 : Int32))])) (fun _ kont => XS.iconst X11.here hx rfl (hb hby at_50) kont) ?_
      refine own_st (T' := T11) (f' := (mkF m 55 #[(.val (.int x0)), (.val (.int x1)), (.val (.ref b1)), (.val (.ref s_LaunchMode_SINGLE_INSTANCE)), .unset, .unset, .unset, .unset] [(.int (1 : Int32))])) (fun _ kont => XS.goto X11.here hx rfl (pc0 := 51) (pc' := 55) rfl (hb hby at_51) (by decide) (by decide) kont) ?_
      refine own_st (T' := T11) (f' := (mkF m 57 #[(.val (.int x0)), (.val (.int x1)), (.val (.ref b1)), (.val (.ref s_LaunchMode_SINGLE_INSTANCE)), (.val (.int (1 : Int32))), .unset, .unset, .unset] [])) (fun _ kont => XS.istore X11.here hx rfl (hb hby at_55) rfl (l' := #[(.val (.int x0)), (.val (.int x1)), (.val (.ref b1)), (.val (.ref s_LaunchMode_SINGLE_INSTANCE)), (.val (.int (1 : Int32))), .unset, .unset, .unset]) rfl kont) ?_
      refine own_st (T' := T11) (f' := (mkF m 58 #[(.val (.int x0)), (.val (.int x1)), (.val (.ref b1)), (.val (.ref s_LaunchMode_SINGLE_INSTANCE)), (.val (.int (1 : Int32))), .unset, .unset, .unset] [(.ref s_LaunchMode_SINGLE_INSTANCE)])) (fun _ kont => XS.aloadN X11.here hx rfl (hb hby at_57) rfl rfl kont) ?_
      refine own_st (T' := T11) (f' := (mkF m 60 #[(.val (.int x0)), (.val (.int x1)), (.val (.ref b1)), (.val (.ref s_LaunchMode_SINGLE_INSTANCE)), (.val (.int (1 : Int32))), .unset, .unset, .unset] [(.int (1 : Int32)), (.ref s_LaunchMode_SINGLE_INSTANCE)])) (fun _ kont => XS.iload X11.here hx rfl (hb hby at_58) rfl kont) ?_
      obtain ⟨v31, T31, L31, hQ31, X31, st31⟩ := own_callV X11 hx hZ e11 hown (hw _ (List.mem_of_getElem? (i := 15) rfl)) (hw _ (List.mem_of_getElem? (i := 16) rfl)) (hw _ (List.mem_of_getElem? (i := 18) rfl)) (hw _ (List.mem_of_getElem? (i := 17) rfl)) (by decide) (b := s_LaunchMode_SINGLE_INSTANCE) (E_LaunchMode_SINGLE_INSTANCE.ext EX11) (hw _ (List.mem_of_getElem? (i := 19) rfl)) (hw _ (List.mem_of_getElem? (i := 3) rfl)) (own_k1_14 l Z a0 hw s_LaunchMode_SINGLE_INSTANCE h11 (E_LaunchMode_SINGLE_INSTANCE.ext EX11) (F_LaunchMode_SINGLE_INSTANCE_ordinal.ext EX11)) (g := (mkF m 60 #[(.val (.int x0)), (.val (.int x1)), (.val (.ref b1)), (.val (.ref s_LaunchMode_SINGLE_INSTANCE)), (.val (.int (1 : Int32))), .unset, .unset, .unset] [(.int (1 : Int32)), (.ref s_LaunchMode_SINGLE_INSTANCE)])) rfl (by rw [hml]; rfl) rfl (argsL := [(.int (1 : Int32))]) (rest := []) rfl (lenOf own_pd2 rfl) rfl (hb hby at_60) (Nat.le_of_ble_eq_true rfl) (Nat.le_of_ble_eq_true rfl) (Nat.le_of_ble_eq_true rfl) (Nat.le_of_ble_eq_true rfl)
      obtain ⟨rfl, rfl, e31⟩ := hQ31
      rw [List.append_nil] at X31
      refine own_st (T' := T31) (f' := (mkF m 63 #[(.val (.int x0)), (.val (.int x1)), (.val (.ref b1)), (.val (.ref s_LaunchMode_SINGLE_INSTANCE)), (.val (.int (1 : Int32))), .unset, .unset, .unset] [(.int (1 : Int32))])) st31 ?_
      refine own_st (T' := T31) (f' := (mkF m 65 #[(.val (.int x0)), (.val (.int x1)), (.val (.ref b1)), (.val (.ref s_LaunchMode_SINGLE_INSTANCE)), (.val (.int (1 : Int32))), (.val (.int (1 : Int32))), .unset, .unset] [])) (fun _ kont => XS.istore X31.here hx rfl (hb hby at_63) rfl (l' := #[(.val (.int x0)), (.val (.int x1)), (.val (.ref b1)), (.val (.ref s_LaunchMode_SINGLE_INSTANCE)), (.val (.int (1 : Int32))), (.val (.int (1 : Int32))), .unset, .unset]) rfl kont) ?_
      refine own_st (T' := T31) (f' := (mkF m 66 #[(.val (.int x0)), (.val (.int x1)), (.val (.ref b1)), (.val (.ref s_LaunchMode_SINGLE_INSTANCE)), (.val (.int (1 : Int32))), (.val (.int (1 : Int32))), .unset, .unset] [(.ref s_LaunchMode_SINGLE_INSTANCE)])) (fun _ kont => XS.aloadN X31.here hx rfl (hb hby at_65) rfl rfl kont) ?_
      obtain ⟨v32, T32, L32, hQ32, X32, st32⟩ := own_callV X31 hx hZ e31 hown (hw _ (List.mem_of_getElem? (i := 29) rfl)) (hw _ (List.mem_of_getElem? (i := 30) rfl)) (hw _ (List.mem_of_getElem? (i := 32) rfl)) (hw _ (List.mem_of_getElem? (i := 31) rfl)) (by decide) (b := s_LaunchMode_SINGLE_INSTANCE) (E_LaunchMode_SINGLE_INSTANCE.ext EX11) (hw _ (List.mem_of_getElem? (i := 33) rfl)) (hw _ (List.mem_of_getElem? (i := 3) rfl)) (own_k3_10 l Z a0 hw s_LaunchMode_SINGLE_INSTANCE h11 (F_LaunchMode_SINGLE_INSTANCE_keepsOneInstance.ext EX11)) (g := (mkF m 66 #[(.val (.int x0)), (.val (.int x1)), (.val (.ref b1)), (.val (.ref s_LaunchMode_SINGLE_INSTANCE)), (.val (.int (1 : Int32))), (.val (.int (1 : Int32))), .unset, .unset] [(.ref s_LaunchMode_SINGLE_INSTANCE)])) rfl (by rw [hml]; rfl) rfl (argsL := []) (rest := []) rfl (lenOf own_pd1 rfl) rfl (hb hby at_66) (Nat.le_of_ble_eq_true rfl) (Nat.le_of_ble_eq_true rfl) (Nat.le_of_ble_eq_true rfl) (Nat.le_of_ble_eq_true rfl)
      obtain ⟨rfl, rfl, e32⟩ := hQ32
      rw [List.append_nil] at X32
      refine own_st (T' := T32) (f' := (mkF m 69 #[(.val (.int x0)), (.val (.int x1)), (.val (.ref b1)), (.val (.ref s_LaunchMode_SINGLE_INSTANCE)), (.val (.int (1 : Int32))), (.val (.int (1 : Int32))), .unset, .unset] [(.int (1 : Int32))])) st32 ?_
      refine own_st (T' := T32) (f' := (mkF m 71 #[(.val (.int x0)), (.val (.int x1)), (.val (.ref b1)), (.val (.ref s_LaunchMode_SINGLE_INSTANCE)), (.val (.int (1 : Int32))), (.val (.int (1 : Int32))), (.val (.int (1 : Int32))), .unset] [])) (fun _ kont => XS.istore X32.here hx rfl (hb hby at_69) rfl (l' := #[(.val (.int x0)), (.val (.int x1)), (.val (.ref b1)), (.val (.ref s_LaunchMode_SINGLE_INSTANCE)), (.val (.int (1 : Int32))), (.val (.int (1 : Int32))), (.val (.int (1 : Int32))), .unset]) rfl kont) ?_
      refine own_st (T' := T32) (f' := (mkF m 73 #[(.val (.int x0)), (.val (.int x1)), (.val (.ref b1)), (.val (.ref s_LaunchMode_SINGLE_INSTANCE)), (.val (.int (1 : Int32))), (.val (.int (1 : Int32))), (.val (.int (1 : Int32))), .unset] [(.int (1 : Int32))])) (fun _ kont => XS.iload X32.here hx rfl (hb hby at_71) rfl kont) ?_
      refine own_st (T' := T32) (f' := (mkF m 83 #[(.val (.int x0)), (.val (.int x1)), (.val (.ref b1)), (.val (.ref s_LaunchMode_SINGLE_INSTANCE)), (.val (.int (1 : Int32))), (.val (.int (1 : Int32))), (.val (.int (1 : Int32))), .unset] [])) (fun _ kont => XS.ifYes X32.here hx rfl (pc0 := 73) (pc' := 83) rfl (hb hby at_73) rfl ((if0 _ _).trans (feq (by decide : ¬ ((1 : Int32) = (0 : Int32)))).2) (by decide) (by decide) kont) ?_
      refine own_st (T' := T32) (f' := (mkF m 85 #[(.val (.int x0)), (.val (.int x1)), (.val (.ref b1)), (.val (.ref s_LaunchMode_SINGLE_INSTANCE)), (.val (.int (1 : Int32))), (.val (.int (1 : Int32))), (.val (.int (1 : Int32))), .unset] [(.int (1 : Int32))])) (fun _ kont => XS.iload X32.here hx rfl (hb hby at_83) rfl kont) ?_
      refine own_st (T' := T32) (f' := (mkF m 88 #[(.val (.int x0)), (.val (.int x1)), (.val (.ref b1)), (.val (.ref s_LaunchMode_SINGLE_INSTANCE)), (.val (.int (1 : Int32))), (.val (.int (1 : Int32))), (.val (.int (1 : Int32))), .unset] [])) (fun _ kont => XS.ifNo X32.here hx rfl (hb hby at_85) rfl ((if0 _ _).trans (feq (by decide : ¬ ((1 : Int32) = (0 : Int32)))).1) kont) ?_
      refine own_st (T' := T32) (f' := (mkF m 89 #[(.val (.int x0)), (.val (.int x1)), (.val (.ref b1)), (.val (.ref s_LaunchMode_SINGLE_INSTANCE)), (.val (.int (1 : Int32))), (.val (.int (1 : Int32))), (.val (.int (1 : Int32))), .unset] [(.ref s_LaunchMode_SINGLE_INSTANCE)])) (fun _ kont => XS.aloadN X32.here hx rfl (hb hby at_88) rfl rfl kont) ?_
      obtain ⟨T33, X33, e33, st33⟩ := getS2 X32 hx hZ hown (host := "") (Or.inl (hw _ (List.mem_of_getElem? (i := 8) rfl))) Via.refl e32 (S_LaunchMode_SINGLE_TASK.ext EX11) (g := (mkF m 89 #[(.val (.int x0)), (.val (.int x1)), (.val (.ref b1)), (.val (.ref s_LaunchMode_SINGLE_INSTANCE)), (.val (.int (1 : Int32))), (.val (.int (1 : Int32))), (.val (.int (1 : Int32))), .unset] [(.ref s_LaunchMode_SINGLE_INSTANCE)])) rfl (hb hby at_89)
      refine own_st (T' := T33) (f' := (mkF m 92 #[(.val (.int x0)), (.val (.int x1)), (.val (.ref b1)), (.val (.ref s_LaunchMode_SINGLE_INSTANCE)), (.val (.int (1 : Int32))), (.val (.int (1 : Int32))), (.val (.int (1 : Int32))), .unset] [(.ref s_LaunchMode_SINGLE_TASK), (.ref s_LaunchMode_SINGLE_INSTANCE)])) st33 ?_
      refine own_st (T' := T33) (f' := (mkF m 95 #[(.val (.int x0)), (.val (.int x1)), (.val (.ref b1)), (.val (.ref s_LaunchMode_SINGLE_INSTANCE)), (.val (.int (1 : Int32))), (.val (.int (1 : Int32))), (.val (.int (1 : Int32))), .unset] [])) (fun _ kont => Jvm.RoadKit.acmp (g := (mkF m 92 #[(.val (.int x0)), (.val (.int x1)), (.val (.ref b1)), (.val (.ref s_LaunchMode_SINGLE_INSTANCE)), (.val (.int (1 : Int32))), (.val (.int (1 : Int32))), (.val (.int (1 : Int32))), .unset] [(.ref s_LaunchMode_SINGLE_TASK), (.ref s_LaunchMode_SINGLE_INSTANCE)])) X33 hx rfl rfl rfl (pc0 := 92) (pc' := 95) (same := false) rfl (hb hby at_92) rfl (decide_eq_false fun q => (Fld.ne F_LaunchMode_SINGLE_INSTANCE_ordinal F_LaunchMode_SINGLE_TASK_ordinal (by decide)) (Value.ref.inj q)) (by decide) (by decide) kont) ?_
      refine own_st (T' := T33) (f' := (mkF m 96 #[(.val (.int x0)), (.val (.int x1)), (.val (.ref b1)), (.val (.ref s_LaunchMode_SINGLE_INSTANCE)), (.val (.int (1 : Int32))), (.val (.int (1 : Int32))), (.val (.int (1 : Int32))), .unset] [(.int (1 : Int32))])) (fun _ kont => XS.iconst X33.here hx rfl (hb hby at_95) kont) ?_
      refine own_st (T' := T33) (f' := (mkF m 100 #[(.val (.int x0)), (.val (.int x1)), (.val (.ref b1)), (.val (.ref s_LaunchMode_SINGLE_INSTANCE)), (.val (.int (1 : Int32))), (.val (.int (1 : Int32))), (.val (.int (1 : Int32))), .unset] [(.int (1 : Int32))])) (fun _ kont => XS.goto X33.here hx rfl (pc0 := 96) (pc' := 100) rfl (hb hby at_96) (by decide) (by decide) kont) ?_
      refine own_st (T' := T33) (f' := (mkF m 102 #[(.val (.int x0)), (.val (.int x1)), (.val (.ref b1)), (.val (.ref s_LaunchMode_SINGLE_INSTANCE)), (.val (.int (1 : Int32))), (.val (.int (1 : Int32))), (.val (.int (1 : Int32))), (.val (.int (1 : Int32)))] [])) (fun _ kont => XS.istore X33.here hx rfl (hb hby at_100) rfl (l' := #[(.val (.int x0)), (.val (.int x1)), (.val (.ref b1)), (.val (.ref s_LaunchMode_SINGLE_INSTANCE)), (.val (.int (1 : Int32))), (.val (.int (1 : Int32))), (.val (.int (1 : Int32))), (.val (.int (1 : Int32)))]) rfl kont) ?_
      refine own_st (T' := T33) (f' := (mkF m 104 #[(.val (.int x0)), (.val (.int x1)), (.val (.ref b1)), (.val (.ref s_LaunchMode_SINGLE_INSTANCE)), (.val (.int (1 : Int32))), (.val (.int (1 : Int32))), (.val (.int (1 : Int32))), (.val (.int (1 : Int32)))] [(.int (1 : Int32))])) (fun _ kont => XS.iload X33.here hx rfl (hb hby at_102) rfl kont) ?_
      refine own_st (T' := T33) (f' := (mkF m 106 #[(.val (.int x0)), (.val (.int x1)), (.val (.ref b1)), (.val (.ref s_LaunchMode_SINGLE_INSTANCE)), (.val (.int (1 : Int32))), (.val (.int (1 : Int32))), (.val (.int (1 : Int32))), (.val (.int (1 : Int32)))] [(.int (1 : Int32)), (.int (1 : Int32))])) (fun _ kont => XS.iload X33.here hx rfl (hb hby at_104) rfl kont) ?_
      refine own_st (T' := T33) (f' := (mkF m 109 #[(.val (.int x0)), (.val (.int x1)), (.val (.ref b1)), (.val (.ref s_LaunchMode_SINGLE_INSTANCE)), (.val (.int (1 : Int32))), (.val (.int (1 : Int32))), (.val (.int (1 : Int32))), (.val (.int (1 : Int32)))] [])) (fun _ kont => XS.icmpNo X33.here hx rfl (hb hby at_106) rfl (teq (by decide : (1 : Int32) = (1 : Int32))).2 kont) ?_
      refine own_st (T' := T33) (f' := (mkF m 110 #[(.val (.int x0)), (.val (.int x1)), (.val (.ref b1)), (.val (.ref s_LaunchMode_SINGLE_INSTANCE)), (.val (.int (1 : Int32))), (.val (.int (1 : Int32))), (.val (.int (1 : Int32))), (.val (.int (1 : Int32)))] [(.int (1 : Int32))])) (fun _ kont => XS.iconst X33.here hx rfl (hb hby at_109) kont) ?_
      refine own_st (T' := T33) (f' := (mkF m 114 #[(.val (.int x0)), (.val (.int x1)), (.val (.ref b1)), (.val (.ref s_LaunchMode_SINGLE_INSTANCE)), (.val (.int (1 : Int32))), (.val (.int (1 : Int32))), (.val (.int (1 : Int32))), (.val (.int (1 : Int32)))] [(.int (1 : Int32))])) (fun _ kont => XS.goto X33.here hx rfl (pc0 := 110) (pc' := 114) rfl (hb hby at_110) (by decide) (by decide) kont) ?_
      exact own_retN X33 hx hlk (t := .boolean) hret (by simp) (hb hby at_114) ⟨rfl, N_11⟩ (by decide) (by decide)
  · skip  -- i = 4
    obtain ⟨cl34, Ar34, q34, S34, N34, H34, G34⟩ := V11
    have hin34 : ¬ ((4 : Int32) < 0 ∨ cl34.slots.size ≤ ((4 : Int32)).toNatClampNeg) := inb_of S34 ⟨by decide, by decide⟩
    refine own_st (T' := T11) (f' := (mkF m 43 #[(.val (.int x0)), (.val (.int x1)), (.val (.ref b1)), .unset, .unset, .unset, .unset, .unset] [(.ref s_LaunchMode_SINGLE_INSTANCE_PER_TASK)])) (fun _ kont => X11.aaload hx (j := (4 : Int32)) (v := (.ref s_LaunchMode_SINGLE_INSTANCE_PER_TASK)) (by rw [e11]; exact Ar34.1) (State.isArrayOf_alike hZ.alike Ar34.2.1) rfl Ar34.2.2 hin34 (Has.at H34 hin34 rfl) (g := (mkF m 42 #[(.val (.int x0)), (.val (.int x1)), (.val (.ref b1)), .unset, .unset, .unset, .unset, .unset] [(.int (4 : Int32)), (.ref b1)])) rfl rfl (hb hby at_42) _ kont) ?_
    refine own_st (T' := T11) (f' := (mkF m 44 #[(.val (.int x0)), (.val (.int x1)), (.val (.ref b1)), (.val (.ref s_LaunchMode_SINGLE_INSTANCE_PER_TASK)), .unset, .unset, .unset, .unset] [])) (fun _ kont => XS.astoreN X11.here hx rfl (hb hby at_43) rfl rfl (l' := #[(.val (.int x0)), (.val (.int x1)), (.val (.ref b1)), (.val (.ref s_LaunchMode_SINGLE_INSTANCE_PER_TASK)), .unset, .unset, .unset, .unset]) rfl kont) ?_
    refine own_st (T' := T11) (f' := (mkF m 45 #[(.val (.int x0)), (.val (.int x1)), (.val (.ref b1)), (.val (.ref s_LaunchMode_SINGLE_INSTANCE_PER_TASK)), .unset, .unset, .unset, .unset] [(.int x1)])) (fun _ kont => XS.iloadN X11.here hx rfl (hb hby at_44) rfl kont) ?_
    refine own_st (T' := T11) (f' := (mkF m 46 #[(.val (.int x0)), (.val (.int x1)), (.val (.ref b1)), (.val (.ref s_LaunchMode_SINGLE_INSTANCE_PER_TASK)), .unset, .unset, .unset, .unset] [(.int (1 : Int32)), (.int x1)])) (fun _ kont => XS.iconst X11.here hx rfl (hb hby at_45) kont) ?_
    refine own_st (T' := T11) (f' := (mkF m 47 #[(.val (.int x0)), (.val (.int x1)), (.val (.ref b1)), (.val (.ref s_LaunchMode_SINGLE_INSTANCE_PER_TASK)), .unset, .unset, .unset, .unset] [(.int (x1 &&& (1 : Int32)))])) (fun _ kont => XS.iand X11.here hx rfl (hb hby at_46) rfl kont) ?_
    by_cases c0 : (x1 &&& (1 : Int32)) = (0 : Int32)
    · refine own_st (T' := T11) (f' := (mkF m 54 #[(.val (.int x0)), (.val (.int x1)), (.val (.ref b1)), (.val (.ref s_LaunchMode_SINGLE_INSTANCE_PER_TASK)), .unset, .unset, .unset, .unset] [])) (fun _ kont => XS.ifYes X11.here hx rfl (pc0 := 47) (pc' := 54) rfl (hb hby at_47) rfl ((if0 _ _).trans (teq c0).1) (by decide) (by decide) kont) ?_
      refine own_st (T' := T11) (f' := (mkF m 55 #[(.val (.int x0)), (.val (.int x1)), (.val (.ref b1)), (.val (.ref s_LaunchMode_SINGLE_INSTANCE_PER_TASK)), .unset, .unset, .unset, .unset] [(.int (0 : Int32))])) (fun _ kont => XS.iconst X11.here hx rfl (hb hby at_54) kont) ?_
      refine own_st (T' := T11) (f' := (mkF m 57 #[(.val (.int x0)), (.val (.int x1)), (.val (.ref b1)), (.val (.ref s_LaunchMode_SINGLE_INSTANCE_PER_TASK)), (.val (.int (0 : Int32))), .unset, .unset, .unset] [])) (fun _ kont => XS.istore X11.here hx rfl (hb hby at_55) rfl (l' := #[(.val (.int x0)), (.val (.int x1)), (.val (.ref b1)), (.val (.ref s_LaunchMode_SINGLE_INSTANCE_PER_TASK)), (.val (.int (0 : Int32))), .unset, .unset, .unset]) rfl kont) ?_
      refine own_st (T' := T11) (f' := (mkF m 58 #[(.val (.int x0)), (.val (.int x1)), (.val (.ref b1)), (.val (.ref s_LaunchMode_SINGLE_INSTANCE_PER_TASK)), (.val (.int (0 : Int32))), .unset, .unset, .unset] [(.ref s_LaunchMode_SINGLE_INSTANCE_PER_TASK)])) (fun _ kont => XS.aloadN X11.here hx rfl (hb hby at_57) rfl rfl kont) ?_
      refine own_st (T' := T11) (f' := (mkF m 60 #[(.val (.int x0)), (.val (.int x1)), (.val (.ref b1)), (.val (.ref s_LaunchMode_SINGLE_INSTANCE_PER_TASK)), (.val (.int (0 : Int32))), .unset, .unset, .unset] [(.int (0 : Int32)), (.ref s_LaunchMode_SINGLE_INSTANCE_PER_TASK)])) (fun _ kont => XS.iload X11.here hx rfl (hb hby at_58) rfl kont) ?_
      obtain ⟨v35, T35, L35, hQ35, X35, st35⟩ := own_callV X11 hx hZ e11 hown (hw _ (List.mem_of_getElem? (i := 15) rfl)) (hw _ (List.mem_of_getElem? (i := 16) rfl)) (hw _ (List.mem_of_getElem? (i := 18) rfl)) (hw _ (List.mem_of_getElem? (i := 17) rfl)) (by decide) (b := s_LaunchMode_SINGLE_INSTANCE_PER_TASK) (E_LaunchMode_SINGLE_INSTANCE_PER_TASK.ext EX11) (hw _ (List.mem_of_getElem? (i := 19) rfl)) (hw _ (List.mem_of_getElem? (i := 3) rfl)) (own_k1_15 l Z a0 hw s_LaunchMode_SINGLE_INSTANCE_PER_TASK h11 (E_LaunchMode_SINGLE_INSTANCE_PER_TASK.ext EX11) (F_LaunchMode_SINGLE_INSTANCE_PER_TASK_ordinal.ext EX11)) (g := (mkF m 60 #[(.val (.int x0)), (.val (.int x1)), (.val (.ref b1)), (.val (.ref s_LaunchMode_SINGLE_INSTANCE_PER_TASK)), (.val (.int (0 : Int32))), .unset, .unset, .unset] [(.int (0 : Int32)), (.ref s_LaunchMode_SINGLE_INSTANCE_PER_TASK)])) rfl (by rw [hml]; rfl) rfl (argsL := [(.int (0 : Int32))]) (rest := []) rfl (lenOf own_pd2 rfl) rfl (hb hby at_60) (Nat.le_of_ble_eq_true rfl) (Nat.le_of_ble_eq_true rfl) (Nat.le_of_ble_eq_true rfl) (Nat.le_of_ble_eq_true rfl)
      obtain ⟨rfl, rfl, e35⟩ := hQ35
      rw [List.append_nil] at X35
      refine own_st (T' := T35) (f' := (mkF m 63 #[(.val (.int x0)), (.val (.int x1)), (.val (.ref b1)), (.val (.ref s_LaunchMode_SINGLE_INSTANCE_PER_TASK)), (.val (.int (0 : Int32))), .unset, .unset, .unset] [(.int (1 : Int32))])) st35 ?_
      refine own_st (T' := T35) (f' := (mkF m 65 #[(.val (.int x0)), (.val (.int x1)), (.val (.ref b1)), (.val (.ref s_LaunchMode_SINGLE_INSTANCE_PER_TASK)), (.val (.int (0 : Int32))), (.val (.int (1 : Int32))), .unset, .unset] [])) (fun _ kont => XS.istore X35.here hx rfl (hb hby at_63) rfl (l' := #[(.val (.int x0)), (.val (.int x1)), (.val (.ref b1)), (.val (.ref s_LaunchMode_SINGLE_INSTANCE_PER_TASK)), (.val (.int (0 : Int32))), (.val (.int (1 : Int32))), .unset, .unset]) rfl kont) ?_
      refine own_st (T' := T35) (f' := (mkF m 66 #[(.val (.int x0)), (.val (.int x1)), (.val (.ref b1)), (.val (.ref s_LaunchMode_SINGLE_INSTANCE_PER_TASK)), (.val (.int (0 : Int32))), (.val (.int (1 : Int32))), .unset, .unset] [(.ref s_LaunchMode_SINGLE_INSTANCE_PER_TASK)])) (fun _ kont => XS.aloadN X35.here hx rfl (hb hby at_65) rfl rfl kont) ?_
      obtain ⟨v36, T36, L36, hQ36, X36, st36⟩ := own_callV X35 hx hZ e35 hown (hw _ (List.mem_of_getElem? (i := 29) rfl)) (hw _ (List.mem_of_getElem? (i := 30) rfl)) (hw _ (List.mem_of_getElem? (i := 32) rfl)) (hw _ (List.mem_of_getElem? (i := 31) rfl)) (by decide) (b := s_LaunchMode_SINGLE_INSTANCE_PER_TASK) (E_LaunchMode_SINGLE_INSTANCE_PER_TASK.ext EX11) (hw _ (List.mem_of_getElem? (i := 33) rfl)) (hw _ (List.mem_of_getElem? (i := 3) rfl)) (own_k3_10 l Z a0 hw s_LaunchMode_SINGLE_INSTANCE_PER_TASK h11 (F_LaunchMode_SINGLE_INSTANCE_PER_TASK_keepsOneInstance.ext EX11)) (g := (mkF m 66 #[(.val (.int x0)), (.val (.int x1)), (.val (.ref b1)), (.val (.ref s_LaunchMode_SINGLE_INSTANCE_PER_TASK)), (.val (.int (0 : Int32))), (.val (.int (1 : Int32))), .unset, .unset] [(.ref s_LaunchMode_SINGLE_INSTANCE_PER_TASK)])) rfl (by rw [hml]; rfl) rfl (argsL := []) (rest := []) rfl (lenOf own_pd1 rfl) rfl (hb hby at_66) (Nat.le_of_ble_eq_true rfl) (Nat.le_of_ble_eq_true rfl) (Nat.le_of_ble_eq_true rfl) (Nat.le_of_ble_eq_true rfl)
      obtain ⟨rfl, rfl, e36⟩ := hQ36
      rw [List.append_nil] at X36
      refine own_st (T' := T36) (f' := (mkF m 69 #[(.val (.int x0)), (.val (.int x1)), (.val (.ref b1)), (.val (.ref s_LaunchMode_SINGLE_INSTANCE_PER_TASK)), (.val (.int (0 : Int32))), (.val (.int (1 : Int32))), .unset, .unset] [(.int (1 : Int32))])) st36 ?_
      refine own_st (T' := T36) (f' := (mkF m 71 #[(.val (.int x0)), (.val (.int x1)), (.val (.ref b1)), (.val (.ref s_LaunchMode_SINGLE_INSTANCE_PER_TASK)), (.val (.int (0 : Int32))), (.val (.int (1 : Int32))), (.val (.int (1 : Int32))), .unset] [])) (fun _ kont => XS.istore X36.here hx rfl (hb hby at_69) rfl (l' := #[(.val (.int x0)), (.val (.int x1)), (.val (.ref b1)), (.val (.ref s_LaunchMode_SINGLE_INSTANCE_PER_TASK)), (.val (.int (0 : Int32))), (.val (.int (1 : Int32))), (.val (.int (1 : Int32))), .unset]) rfl kont) ?_
      refine own_st (T' := T36) (f' := (mkF m 73 #[(.val (.int x0)), (.val (.int x1)), (.val (.ref b1)), (.val (.ref s_LaunchMode_SINGLE_INSTANCE_PER_TASK)), (.val (.int (0 : Int32))), (.val (.int (1 : Int32))), (.val (.int (1 : Int32))), .unset] [(.int (0 : Int32))])) (fun _ kont => XS.iload X36.here hx rfl (hb hby at_71) rfl kont) ?_
      refine own_st (T' := T36) (f' := (mkF m 76 #[(.val (.int x0)), (.val (.int x1)), (.val (.ref b1)), (.val (.ref s_LaunchMode_SINGLE_INSTANCE_PER_TASK)), (.val (.int (0 : Int32))), (.val (.int (1 : Int32))), (.val (.int (1 : Int32))), .unset] [])) (fun _ kont => XS.ifNo X36.here hx rfl (hb hby at_73) rfl ((if0 _ _).trans (teq (by decide : (0 : Int32) = (0 : Int32))).2) kont) ?_
      refine own_st (T' := T36) (f' := (mkF m 78 #[(.val (.int x0)), (.val (.int x1)), (.val (.ref b1)), (.val (.ref s_LaunchMode_SINGLE_INSTANCE_PER_TASK)), (.val (.int (0 : Int32))), (.val (.int (1 : Int32))), (.val (.int (1 : Int32))), .unset] [(.int (1 : Int32))])) (fun _ kont => XS.iload X36.here hx rfl (hb hby at_76) rfl kont) ?_
      refine own_st (T' := T36) (f' := (mkF m 80 #[(.val (.int x0)), (.val (.int x1)), (.val (.ref b1)), (.val (.ref s_LaunchMode_SINGLE_INSTANCE_PER_TASK)), (.val (.int (0 : Int32))), (.val (.int (1 : Int32))), (.val (.int (1 : Int32))), (.val (.int (1 : Int32)))] [])) (fun _ kont => XS.istore X36.here hx rfl (hb hby at_78) rfl (l' := #[(.val (.int x0)), (.val (.int x1)), (.val (.ref b1)), (.val (.ref s_LaunchMode_SINGLE_INSTANCE_PER_TASK)), (.val (.int (0 : Int32))), (.val (.int (1 : Int32))), (.val (.int (1 : Int32))), (.val (.int (1 : Int32)))]) rfl kont) ?_
      refine own_st (T' := T36) (f' := (mkF m 102 #[(.val (.int x0)), (.val (.int x1)), (.val (.ref b1)), (.val (.ref s_LaunchMode_SINGLE_INSTANCE_PER_TASK)), (.val (.int (0 : Int32))), (.val (.int (1 : Int32))), (.val (.int (1 : Int32))), (.val (.int (1 : Int32)))] [])) (fun _ kont => XS.goto X36.here hx rfl (pc0 := 80) (pc' := 102) rfl (hb hby at_80) (by decide) (by decide) kont) ?_
      refine own_st (T' := T36) (f' := (mkF m 104 #[(.val (.int x0)), (.val (.int x1)), (.val (.ref b1)), (.val (.ref s_LaunchMode_SINGLE_INSTANCE_PER_TASK)), (.val (.int (0 : Int32))), (.val (.int (1 : Int32))), (.val (.int (1 : Int32))), (.val (.int (1 : Int32)))] [(.int (1 : Int32))])) (fun _ kont => XS.iload X36.here hx rfl (hb hby at_102) rfl kont) ?_
      refine own_st (T' := T36) (f' := (mkF m 106 #[(.val (.int x0)), (.val (.int x1)), (.val (.ref b1)), (.val (.ref s_LaunchMode_SINGLE_INSTANCE_PER_TASK)), (.val (.int (0 : Int32))), (.val (.int (1 : Int32))), (.val (.int (1 : Int32))), (.val (.int (1 : Int32)))] [(.int (1 : Int32)), (.int (1 : Int32))])) (fun _ kont => XS.iload X36.here hx rfl (hb hby at_104) rfl kont) ?_
      refine own_st (T' := T36) (f' := (mkF m 109 #[(.val (.int x0)), (.val (.int x1)), (.val (.ref b1)), (.val (.ref s_LaunchMode_SINGLE_INSTANCE_PER_TASK)), (.val (.int (0 : Int32))), (.val (.int (1 : Int32))), (.val (.int (1 : Int32))), (.val (.int (1 : Int32)))] [])) (fun _ kont => XS.icmpNo X36.here hx rfl (hb hby at_106) rfl (teq (by decide : (1 : Int32) = (1 : Int32))).2 kont) ?_
      refine own_st (T' := T36) (f' := (mkF m 110 #[(.val (.int x0)), (.val (.int x1)), (.val (.ref b1)), (.val (.ref s_LaunchMode_SINGLE_INSTANCE_PER_TASK)), (.val (.int (0 : Int32))), (.val (.int (1 : Int32))), (.val (.int (1 : Int32))), (.val (.int (1 : Int32)))] [(.int (1 : Int32))])) (fun _ kont => XS.iconst X36.here hx rfl (hb hby at_109) kont) ?_
      refine own_st (T' := T36) (f' := (mkF m 114 #[(.val (.int x0)), (.val (.int x1)), (.val (.ref b1)), (.val (.ref s_LaunchMode_SINGLE_INSTANCE_PER_TASK)), (.val (.int (0 : Int32))), (.val (.int (1 : Int32))), (.val (.int (1 : Int32))), (.val (.int (1 : Int32)))] [(.int (1 : Int32))])) (fun _ kont => XS.goto X36.here hx rfl (pc0 := 110) (pc' := 114) rfl (hb hby at_110) (by decide) (by decide) kont) ?_
      exact own_retN X36 hx hlk (t := .boolean) hret (by simp) (hb hby at_114) ⟨rfl, N_11⟩ (by decide) (by decide)
    · refine own_st (T' := T11) (f' := (mkF m 50 #[(.val (.int x0)), (.val (.int x1)), (.val (.ref b1)), (.val (.ref s_LaunchMode_SINGLE_INSTANCE_PER_TASK)), .unset, .unset, .unset, .unset] [])) (fun _ kont => XS.ifNo X11.here hx rfl (hb hby at_47) rfl ((if0 _ _).trans (feq c0).1) kont) ?_
      refine own_st (T' := T11) (f' := (mkF m 51 #[(.val (.int x0)), (.val (.int x1)), (.val (.ref b1)), (.val (.ref s_LaunchMode_SINGLE_INSTANCE_PER_TASK)), .unset, .unset, .unset, .unset] [(.int (1 : Int32))])) (fun _ kont => XS.iconst X11.here hx rfl (hb hby at_50) kont) ?_
      refine own_st (T' := T11) (f' := (mkF m 55 #[(.val (.int x0)), (.val (.int x1)), (.val (.ref b1)), (.val (.ref s_LaunchMode_SINGLE_INSTANCE_PER_TASK)), .unset, .unset, .unset, .unset] [(.int (1 : Int32))])) (fun _ kont => XS.goto X11.here hx rfl (pc0 := 51) (pc' := 55) rfl (hb hby at_51) (by decide) (by decide) kont) ?_
      refine own_st (T' := T11) (f' := (mkF m 57 #[(.val (.int x0)), (.val (.int x1)), (.val (.ref b1)), (.val (.ref s_LaunchMode_SINGLE_INSTANCE_PER_TASK)), (.val (.int (1 : Int32))), .unset, .unset, .unset] [])) (fun _ kont => XS.istore X11.here hx rfl (hb hby at_55) rfl (l' := #[(.val (.int x0)), (.val (.int x1)), (.val (.ref b1)), (.val (.ref s_LaunchMode_SINGLE_INSTANCE_PER_TASK)), (.val (.int (1 : Int32))), .unset, .unset, .unset]) rfl kont) ?_
      refine own_st (T' := T11) (f' := (mkF m 58 #[(.val (.int x0)), (.val (.int x1)), (.val (.ref b1)), (.val (.ref s_LaunchMode_SINGLE_INSTANCE_PER_TASK)), (.val (.int (1 : Int32))), .unset, .unset, .unset] [(.ref s_LaunchMode_SINGLE_INSTANCE_PER_TASK)])) (fun _ kont => XS.aloadN X11.here hx rfl (hb hby at_57) rfl rfl kont) ?_
      refine own_st (T' := T11) (f' := (mkF m 60 #[(.val (.int x0)), (.val (.int x1)), (.val (.ref b1)), (.val (.ref s_LaunchMode_SINGLE_INSTANCE_PER_TASK)), (.val (.int (1 : Int32))), .unset, .unset, .unset] [(.int (1 : Int32)), (.ref s_LaunchMode_SINGLE_INSTANCE_PER_TASK)])) (fun _ kont => XS.iload X11.here hx rfl (hb hby at_58) rfl kont) ?_
      obtain ⟨v37, T37, L37, hQ37, X37, st37⟩ := own_callV X11 hx hZ e11 hown (hw _ (List.mem_of_getElem? (i := 15) rfl)) (hw _ (List.mem_of_getElem? (i := 16) rfl)) (hw _ (List.mem_of_getElem? (i := 18) rfl)) (hw _ (List.mem_of_getElem? (i := 17) rfl)) (by decide) (b := s_LaunchMode_SINGLE_INSTANCE_PER_TASK) (E_LaunchMode_SINGLE_INSTANCE_PER_TASK.ext EX11) (hw _ (List.mem_of_getElem? (i := 19) rfl)) (hw _ (List.mem_of_getElem? (i := 3) rfl)) (own_k1_17 l Z a0 hw s_LaunchMode_SINGLE_INSTANCE_PER_TASK h11 (E_LaunchMode_SINGLE_INSTANCE_PER_TASK.ext EX11) (F_LaunchMode_SINGLE_INSTANCE_PER_TASK_ordinal.ext EX11)) (g := (mkF m 60 #[(.val (.int x0)), (.val (.int x1)), (.val (.ref b1)), (.val (.ref s_LaunchMode_SINGLE_INSTANCE_PER_TASK)), (.val (.int (1 : Int32))), .unset, .unset, .unset] [(.int (1 : Int32)), (.ref s_LaunchMode_SINGLE_INSTANCE_PER_TASK)])) rfl (by rw [hml]; rfl) rfl (argsL := [(.int (1 : Int32))]) (rest := []) rfl (lenOf own_pd2 rfl) rfl (hb hby at_60) (Nat.le_of_ble_eq_true rfl) (Nat.le_of_ble_eq_true rfl) (Nat.le_of_ble_eq_true rfl) (Nat.le_of_ble_eq_true rfl)
      obtain ⟨rfl, rfl, e37⟩ := hQ37
      rw [List.append_nil] at X37
      refine own_st (T' := T37) (f' := (mkF m 63 #[(.val (.int x0)), (.val (.int x1)), (.val (.ref b1)), (.val (.ref s_LaunchMode_SINGLE_INSTANCE_PER_TASK)), (.val (.int (1 : Int32))), .unset, .unset, .unset] [(.int (1 : Int32))])) st37 ?_
      refine own_st (T' := T37) (f' := (mkF m 65 #[(.val (.int x0)), (.val (.int x1)), (.val (.ref b1)), (.val (.ref s_LaunchMode_SINGLE_INSTANCE_PER_TASK)), (.val (.int (1 : Int32))), (.val (.int (1 : Int32))), .unset, .unset] [])) (fun _ kont => XS.istore X37.here hx rfl (hb hby at_63) rfl (l' := #[(.val (.int x0)), (.val (.int x1)), (.val (.ref b1)), (.val (.ref s_LaunchMode_SINGLE_INSTANCE_PER_TASK)), (.val (.int (1 : Int32))), (.val (.int (1 : Int32))), .unset, .unset]) rfl kont) ?_
      refine own_st (T' := T37) (f' := (mkF m 66 #[(.val (.int x0)), (.val (.int x1)), (.val (.ref b1)), (.val (.ref s_LaunchMode_SINGLE_INSTANCE_PER_TASK)), (.val (.int (1 : Int32))), (.val (.int (1 : Int32))), .unset, .unset] [(.ref s_LaunchMode_SINGLE_INSTANCE_PER_TASK)])) (fun _ kont => XS.aloadN X37.here hx rfl (hb hby at_65) rfl rfl kont) ?_
      obtain ⟨v38, T38, L38, hQ38, X38, st38⟩ := own_callV X37 hx hZ e37 hown (hw _ (List.mem_of_getElem? (i := 29) rfl)) (hw _ (List.mem_of_getElem? (i := 30) rfl)) (hw _ (List.mem_of_getElem? (i := 32) rfl)) (hw _ (List.mem_of_getElem? (i := 31) rfl)) (by decide) (b := s_LaunchMode_SINGLE_INSTANCE_PER_TASK) (E_LaunchMode_SINGLE_INSTANCE_PER_TASK.ext EX11) (hw _ (List.mem_of_getElem? (i := 33) rfl)) (hw _ (List.mem_of_getElem? (i := 3) rfl)) (own_k3_10 l Z a0 hw s_LaunchMode_SINGLE_INSTANCE_PER_TASK h11 (F_LaunchMode_SINGLE_INSTANCE_PER_TASK_keepsOneInstance.ext EX11)) (g := (mkF m 66 #[(.val (.int x0)), (.val (.int x1)), (.val (.ref b1)), (.val (.ref s_LaunchMode_SINGLE_INSTANCE_PER_TASK)), (.val (.int (1 : Int32))), (.val (.int (1 : Int32))), .unset, .unset] [(.ref s_LaunchMode_SINGLE_INSTANCE_PER_TASK)])) rfl (by rw [hml]; rfl) rfl (argsL := []) (rest := []) rfl (lenOf own_pd1 rfl) rfl (hb hby at_66) (Nat.le_of_ble_eq_true rfl) (Nat.le_of_ble_eq_true rfl) (Nat.le_of_ble_eq_true rfl) (Nat.le_of_ble_eq_true rfl)
      obtain ⟨rfl, rfl, e38⟩ := hQ38
      rw [List.append_nil] at X38
      refine own_st (T' := T38) (f' := (mkF m 69 #[(.val (.int x0)), (.val (.int x1)), (.val (.ref b1)), (.val (.ref s_LaunchMode_SINGLE_INSTANCE_PER_TASK)), (.val (.int (1 : Int32))), (.val (.int (1 : Int32))), .unset, .unset] [(.int (1 : Int32))])) st38 ?_
      refine own_st (T' := T38) (f' := (mkF m 71 #[(.val (.int x0)), (.val (.int x1)), (.val (.ref b1)), (.val (.ref s_LaunchMode_SINGLE_INSTANCE_PER_TASK)), (.val (.int (1 : Int32))), (.val (.int (1 : Int32))), (.val (.int (1 : Int32))), .unset] [])) (fun _ kont => XS.istore X38.here hx rfl (hb hby at_69) rfl (l' := #[(.val (.int x0)), (.val (.int x1)), (.val (.ref b1)), (.val (.ref s_LaunchMode_SINGLE_INSTANCE_PER_TASK)), (.val (.int (1 : Int32))), (.val (.int (1 : Int32))), (.val (.int (1 : Int32))), .unset]) rfl kont) ?_
      refine own_st (T' := T38) (f' := (mkF m 73 #[(.val (.int x0)), (.val (.int x1)), (.val (.ref b1)), (.val (.ref s_LaunchMode_SINGLE_INSTANCE_PER_TASK)), (.val (.int (1 : Int32))), (.val (.int (1 : Int32))), (.val (.int (1 : Int32))), .unset] [(.int (1 : Int32))])) (fun _ kont => XS.iload X38.here hx rfl (hb hby at_71) rfl kont) ?_
      refine own_st (T' := T38) (f' := (mkF m 83 #[(.val (.int x0)), (.val (.int x1)), (.val (.ref b1)), (.val (.ref s_LaunchMode_SINGLE_INSTANCE_PER_TASK)), (.val (.int (1 : Int32))), (.val (.int (1 : Int32))), (.val (.int (1 : Int32))), .unset] [])) (fun _ kont => XS.ifYes X38.here hx rfl (pc0 := 73) (pc' := 83) rfl (hb hby at_73) rfl ((if0 _ _).trans (feq (by decide : ¬ ((1 : Int32) = (0 : Int32)))).2) (by decide) (by decide) kont) ?_
      refine own_st (T' := T38) (f' := (mkF m 85 #[(.val (.int x0)), (.val (.int x1)), (.val (.ref b1)), (.val (.ref s_LaunchMode_SINGLE_INSTANCE_PER_TASK)), (.val (.int (1 : Int32))), (.val (.int (1 : Int32))), (.val (.int (1 : Int32))), .unset] [(.int (1 : Int32))])) (fun _ kont => XS.iload X38.here hx rfl (hb hby at_83) rfl kont) ?_
      refine own_st (T' := T38) (f' := (mkF m 88 #[(.val (.int x0)), (.val (.int x1)), (.val (.ref b1)), (.val (.ref s_LaunchMode_SINGLE_INSTANCE_PER_TASK)), (.val (.int (1 : Int32))), (.val (.int (1 : Int32))), (.val (.int (1 : Int32))), .unset] [])) (fun _ kont => XS.ifNo X38.here hx rfl (hb hby at_85) rfl ((if0 _ _).trans (feq (by decide : ¬ ((1 : Int32) = (0 : Int32)))).1) kont) ?_
      refine own_st (T' := T38) (f' := (mkF m 89 #[(.val (.int x0)), (.val (.int x1)), (.val (.ref b1)), (.val (.ref s_LaunchMode_SINGLE_INSTANCE_PER_TASK)), (.val (.int (1 : Int32))), (.val (.int (1 : Int32))), (.val (.int (1 : Int32))), .unset] [(.ref s_LaunchMode_SINGLE_INSTANCE_PER_TASK)])) (fun _ kont => XS.aloadN X38.here hx rfl (hb hby at_88) rfl rfl kont) ?_
      obtain ⟨T39, X39, e39, st39⟩ := getS2 X38 hx hZ hown (host := "") (Or.inl (hw _ (List.mem_of_getElem? (i := 8) rfl))) Via.refl e38 (S_LaunchMode_SINGLE_TASK.ext EX11) (g := (mkF m 89 #[(.val (.int x0)), (.val (.int x1)), (.val (.ref b1)), (.val (.ref s_LaunchMode_SINGLE_INSTANCE_PER_TASK)), (.val (.int (1 : Int32))), (.val (.int (1 : Int32))), (.val (.int (1 : Int32))), .unset] [(.ref s_LaunchMode_SINGLE_INSTANCE_PER_TASK)])) rfl (hb hby at_89)
      refine own_st (T' := T39) (f' := (mkF m 92 #[(.val (.int x0)), (.val (.int x1)), (.val (.ref b1)), (.val (.ref s_LaunchMode_SINGLE_INSTANCE_PER_TASK)), (.val (.int (1 : Int32))), (.val (.int (1 : Int32))), (.val (.int (1 : Int32))), .unset] [(.ref s_LaunchMode_SINGLE_TASK), (.ref s_LaunchMode_SINGLE_INSTANCE_PER_TASK)])) st39 ?_
      refine own_st (T' := T39) (f' := (mkF m 95 #[(.val (.int x0)), (.val (.int x1)), (.val (.ref b1)), (.val (.ref s_LaunchMode_SINGLE_INSTANCE_PER_TASK)), (.val (.int (1 : Int32))), (.val (.int (1 : Int32))), (.val (.int (1 : Int32))), .unset] [])) (fun _ kont => Jvm.RoadKit.acmp (g := (mkF m 92 #[(.val (.int x0)), (.val (.int x1)), (.val (.ref b1)), (.val (.ref s_LaunchMode_SINGLE_INSTANCE_PER_TASK)), (.val (.int (1 : Int32))), (.val (.int (1 : Int32))), (.val (.int (1 : Int32))), .unset] [(.ref s_LaunchMode_SINGLE_TASK), (.ref s_LaunchMode_SINGLE_INSTANCE_PER_TASK)])) X39 hx rfl rfl rfl (pc0 := 92) (pc' := 95) (same := false) rfl (hb hby at_92) rfl (decide_eq_false fun q => (Fld.ne F_LaunchMode_SINGLE_INSTANCE_PER_TASK_ordinal F_LaunchMode_SINGLE_TASK_ordinal (by decide)) (Value.ref.inj q)) (by decide) (by decide) kont) ?_
      refine own_st (T' := T39) (f' := (mkF m 96 #[(.val (.int x0)), (.val (.int x1)), (.val (.ref b1)), (.val (.ref s_LaunchMode_SINGLE_INSTANCE_PER_TASK)), (.val (.int (1 : Int32))), (.val (.int (1 : Int32))), (.val (.int (1 : Int32))), .unset] [(.int (1 : Int32))])) (fun _ kont => XS.iconst X39.here hx rfl (hb hby at_95) kont) ?_
      refine own_st (T' := T39) (f' := (mkF m 100 #[(.val (.int x0)), (.val (.int x1)), (.val (.ref b1)), (.val (.ref s_LaunchMode_SINGLE_INSTANCE_PER_TASK)), (.val (.int (1 : Int32))), (.val (.int (1 : Int32))), (.val (.int (1 : Int32))), .unset] [(.int (1 : Int32))])) (fun _ kont => XS.goto X39.here hx rfl (pc0 := 96) (pc' := 100) rfl (hb hby at_96) (by decide) (by decide) kont) ?_
      refine own_st (T' := T39) (f' := (mkF m 102 #[(.val (.int x0)), (.val (.int x1)), (.val (.ref b1)), (.val (.ref s_LaunchMode_SINGLE_INSTANCE_PER_TASK)), (.val (.int (1 : Int32))), (.val (.int (1 : Int32))), (.val (.int (1 : Int32))), (.val (.int (1 : Int32)))] [])) (fun _ kont => XS.istore X39.here hx rfl (hb hby at_100) rfl (l' := #[(.val (.int x0)), (.val (.int x1)), (.val (.ref b1)), (.val (.ref s_LaunchMode_SINGLE_INSTANCE_PER_TASK)), (.val (.int (1 : Int32))), (.val (.int (1 : Int32))), (.val (.int (1 : Int32))), (.val (.int (1 : Int32)))]) rfl kont) ?_
      refine own_st (T' := T39) (f' := (mkF m 104 #[(.val (.int x0)), (.val (.int x1)), (.val (.ref b1)), (.val (.ref s_LaunchMode_SINGLE_INSTANCE_PER_TASK)), (.val (.int (1 : Int32))), (.val (.int (1 : Int32))), (.val (.int (1 : Int32))), (.val (.int (1 : Int32)))] [(.int (1 : Int32))])) (fun _ kont => XS.iload X39.here hx rfl (hb hby at_102) rfl kont) ?_
      refine own_st (T' := T39) (f' := (mkF m 106 #[(.val (.int x0)), (.val (.int x1)), (.val (.ref b1)), (.val (.ref s_LaunchMode_SINGLE_INSTANCE_PER_TASK)), (.val (.int (1 : Int32))), (.val (.int (1 : Int32))), (.val (.int (1 : Int32))), (.val (.int (1 : Int32)))] [(.int (1 : Int32)), (.int (1 : Int32))])) (fun _ kont => XS.iload X39.here hx rfl (hb hby at_104) rfl kont) ?_
      refine own_st (T' := T39) (f' := (mkF m 109 #[(.val (.int x0)), (.val (.int x1)), (.val (.ref b1)), (.val (.ref s_LaunchMode_SINGLE_INSTANCE_PER_TASK)), (.val (.int (1 : Int32))), (.val (.int (1 : Int32))), (.val (.int (1 : Int32))), (.val (.int (1 : Int32)))] [])) (fun _ kont => XS.icmpNo X39.here hx rfl (hb hby at_106) rfl (teq (by decide : (1 : Int32) = (1 : Int32))).2 kont) ?_
      refine own_st (T' := T39) (f' := (mkF m 110 #[(.val (.int x0)), (.val (.int x1)), (.val (.ref b1)), (.val (.ref s_LaunchMode_SINGLE_INSTANCE_PER_TASK)), (.val (.int (1 : Int32))), (.val (.int (1 : Int32))), (.val (.int (1 : Int32))), (.val (.int (1 : Int32)))] [(.int (1 : Int32))])) (fun _ kont => XS.iconst X39.here hx rfl (hb hby at_109) kont) ?_
      refine own_st (T' := T39) (f' := (mkF m 114 #[(.val (.int x0)), (.val (.int x1)), (.val (.ref b1)), (.val (.ref s_LaunchMode_SINGLE_INSTANCE_PER_TASK)), (.val (.int (1 : Int32))), (.val (.int (1 : Int32))), (.val (.int (1 : Int32))), (.val (.int (1 : Int32)))] [(.int (1 : Int32))])) (fun _ kont => XS.goto X39.here hx rfl (pc0 := 110) (pc' := 114) rfl (hb hby at_110) (by decide) (by decide) kont) ?_
      exact own_retN X39 hx hlk (t := .boolean) hret (by simp) (hb hby at_114) ⟨rfl, N_11⟩ (by decide) (by decide)
set_option maxRecDepth 65536 in
set_option maxHeartbeats 40000000 in
theorem own_comes {Post : Tables → Env → Array Value → State → Outcome → State → Prop} (hpost : ∀ tb e args s v u, (limb_1_1.after args s (.returned v) u = true ∧ limb_1_2.after args s (.returned v) u = true ∧ True) → FrameEnd s (.returned v) u (Jvm.fieldLocs frame_1_writes args s ++ Jvm.arrayLocs frame_1_arrays args s ++ Jvm.staticLocs frame_1_statics s) 16 128 → Post tb e args s (.returned v) u) :
    ArmFor flags0 classFile x code maxLocals ret World_1 tables_1 room_1 Calls_1 rest_1 Pre_1 Post := by
  intro l hfl _ _ p e ha hc hk s m args below hf hA hF happ hP
  obtain ⟨hcalls, hrest, hpre⟩ := hP
  obtain ⟨-, -, -, hnamed, -, -, -, hat⟩ := (Spec.applies_iff hf).mp happ
  obtain ⟨hg, hn⟩ := and_e (Cond.before_iff.mp (show (Jvm.Cond.and given_1 narrow_1).before args s = true from hpre))
  obtain ⟨g0, g0'⟩ := and_e hg
  obtain ⟨g1, g1'⟩ := and_e g0'
  obtain ⟨w0, w1, rfl⟩ : ∃ w0 w1 : Value, args = #[w0, w1] := by
    have hs : args.size = 2 := by simpa [Cond.value, given_1] using g0
    obtain ⟨L⟩ := args
    match L, hs with
    | [w0, w1], _ => exact ⟨w0, w1, rfl⟩
  have hw := fun d (hd : d ∈ tables_1) => atoms_spec (ws := Jvm.Cond.code x code maxLocals ret :: tables_1) hat d (List.mem_cons_of_mem _ hd)
  have hfit : Fit s := fun {y c} hc i hi => by
    obtain ⟨ha, rfl⟩ := Array.getElem?_eq_some_iff.mp hc
    have q := List.all_eq_true.mp ((Array.all_eq_true_iff_forall_mem.mp hF) _ (Array.getElem_mem ha)) i (List.mem_range.mpr hi)
    simpa [Array.getElem?_eq_getElem hi] using q
  obtain ⟨i0, ei0⟩ := is_v g1
  obtain rfl : w0 = (.int i0) := Option.some.inj ei0
  obtain ⟨i1, ei1⟩ := is_v g1'
  obtain rfl : w1 = (.int i1) := Option.some.inj ei1
  obtain ⟨n0, n0'⟩ := and_e hn
  obtain ⟨n1, n1'⟩ := and_e n0'
  obtain ⟨n2, n2'⟩ := and_e n1'
  obtain ⟨n3, n3'⟩ := and_e n2'
  obtain ⟨n4, n4'⟩ := and_e n3'
  obtain ⟨n5, n5'⟩ := and_e n4'
  obtain ⟨n6, n6'⟩ := and_e n5'
  obtain ⟨n7, n7'⟩ := and_e n6'
  obtain ⟨n8, n8'⟩ := and_e n7'
  obtain ⟨n9, n9'⟩ := and_e n8'
  obtain ⟨n10, n10'⟩ := and_e n9'
  obtain ⟨n11, n11'⟩ := and_e n10'
  obtain ⟨n12, n12'⟩ := and_e n11'
  obtain ⟨n13, n13'⟩ := and_e n12'
  obtain ⟨s_LaunchMode_STANDARD, v_LaunchMode_STANDARD⟩ := exa_v n0
  have E_LaunchMode_STANDARD : Exa s s.heap s_LaunchMode_STANDARD "com/example/usher/usher/LaunchMode" := Exa.start v_LaunchMode_STANDARD n0
  have S_LaunchMode_STANDARD : Sta s s.heap "com/example/usher/usher/LaunchMode" "STANDARD" "Lcom/example/usher/usher/LaunchMode;" (.ref s_LaunchMode_STANDARD) := Sta.start v_LaunchMode_STANDARD (Or.inr ⟨(hw _ (List.mem_of_getElem? (i := 3) rfl)), (hw _ (List.mem_of_getElem? (i := 4) rfl))⟩)
  obtain ⟨s_LaunchMode_SINGLE_TOP, v_LaunchMode_SINGLE_TOP⟩ := exa_v n1
  have E_LaunchMode_SINGLE_TOP : Exa s s.heap s_LaunchMode_SINGLE_TOP "com/example/usher/usher/LaunchMode" := Exa.start v_LaunchMode_SINGLE_TOP n1
  have S_LaunchMode_SINGLE_TOP : Sta s s.heap "com/example/usher/usher/LaunchMode" "SINGLE_TOP" "Lcom/example/usher/usher/LaunchMode;" (.ref s_LaunchMode_SINGLE_TOP) := Sta.start v_LaunchMode_SINGLE_TOP (Or.inr ⟨(hw _ (List.mem_of_getElem? (i := 3) rfl)), (hw _ (List.mem_of_getElem? (i := 7) rfl))⟩)
  obtain ⟨s_LaunchMode_SINGLE_TASK, v_LaunchMode_SINGLE_TASK⟩ := exa_v n2
  have E_LaunchMode_SINGLE_TASK : Exa s s.heap s_LaunchMode_SINGLE_TASK "com/example/usher/usher/LaunchMode" := Exa.start v_LaunchMode_SINGLE_TASK n2
  have S_LaunchMode_SINGLE_TASK : Sta s s.heap "com/example/usher/usher/LaunchMode" "SINGLE_TASK" "Lcom/example/usher/usher/LaunchMode;" (.ref s_LaunchMode_SINGLE_TASK) := Sta.start v_LaunchMode_SINGLE_TASK (Or.inr ⟨(hw _ (List.mem_of_getElem? (i := 3) rfl)), (hw _ (List.mem_of_getElem? (i := 9) rfl))⟩)
  obtain ⟨s_LaunchMode_SINGLE_INSTANCE, v_LaunchMode_SINGLE_INSTANCE⟩ := exa_v n3
  have E_LaunchMode_SINGLE_INSTANCE : Exa s s.heap s_LaunchMode_SINGLE_INSTANCE "com/example/usher/usher/LaunchMode" := Exa.start v_LaunchMode_SINGLE_INSTANCE n3
  have S_LaunchMode_SINGLE_INSTANCE : Sta s s.heap "com/example/usher/usher/LaunchMode" "SINGLE_INSTANCE" "Lcom/example/usher/usher/LaunchMode;" (.ref s_LaunchMode_SINGLE_INSTANCE) := Sta.start v_LaunchMode_SINGLE_INSTANCE (Or.inr ⟨(hw _ (List.mem_of_getElem? (i := 3) rfl)), (hw _ (List.mem_of_getElem? (i := 11) rfl))⟩)
  obtain ⟨s_LaunchMode_SINGLE_INSTANCE_PER_TASK, v_LaunchMode_SINGLE_INSTANCE_PER_TASK⟩ := exa_v n4
  have E_LaunchMode_SINGLE_INSTANCE_PER_TASK : Exa s s.heap s_LaunchMode_SINGLE_INSTANCE_PER_TASK "com/example/usher/usher/LaunchMode" := Exa.start v_LaunchMode_SINGLE_INSTANCE_PER_TASK n4
  have S_LaunchMode_SINGLE_INSTANCE_PER_TASK : Sta s s.heap "com/example/usher/usher/LaunchMode" "SINGLE_INSTANCE_PER_TASK" "Lcom/example/usher/usher/LaunchMode;" (.ref s_LaunchMode_SINGLE_INSTANCE_PER_TASK) := Sta.start v_LaunchMode_SINGLE_INSTANCE_PER_TASK (Or.inr ⟨(hw _ (List.mem_of_getElem? (i := 3) rfl)), (hw _ (List.mem_of_getElem? (i := 13) rfl))⟩)
  have F_LaunchMode_STANDARD_ordinal : Fld s s.heap s_LaunchMode_STANDARD "java/lang/Enum" "ordinal" "I" (.int (0 : Int32)) := Fld.start ((fld_at v_LaunchMode_STANDARD).symm.trans (own_eqI n5))
  have F_LaunchMode_STANDARD_keepsOneInstance : Fld s s.heap s_LaunchMode_STANDARD "com/example/usher/usher/LaunchMode" "keepsOneInstance" "Z" (.int (0 : Int32)) := Fld.start ((fld_at v_LaunchMode_STANDARD).symm.trans (own_eqI n6))
  have F_LaunchMode_SINGLE_INSTANCE_PER_TASK_ordinal : Fld s s.heap s_LaunchMode_SINGLE_INSTANCE_PER_TASK "java/lang/Enum" "ordinal" "I" (.int (4 : Int32)) := Fld.start ((fld_at v_LaunchMode_SINGLE_INSTANCE_PER_TASK).symm.trans (own_eqI n7))
  have F_LaunchMode_SINGLE_INSTANCE_PER_TASK_keepsOneInstance : Fld s s.heap s_LaunchMode_SINGLE_INSTANCE_PER_TASK "com/example/usher/usher/LaunchMode" "keepsOneInstance" "Z" (.int (1 : Int32)) := Fld.start ((fld_at v_LaunchMode_SINGLE_INSTANCE_PER_TASK).symm.trans (own_eqI n8))
  have F_LaunchMode_SINGLE_TASK_ordinal : Fld s s.heap s_LaunchMode_SINGLE_TASK "java/lang/Enum" "ordinal" "I" (.int (2 : Int32)) := Fld.start ((fld_at v_LaunchMode_SINGLE_TASK).symm.trans (own_eqI n9))
  have F_LaunchMode_SINGLE_INSTANCE_ordinal : Fld s s.heap s_LaunchMode_SINGLE_INSTANCE "java/lang/Enum" "ordinal" "I" (.int (3 : Int32)) := Fld.start ((fld_at v_LaunchMode_SINGLE_INSTANCE).symm.trans (own_eqI n10))
  have F_LaunchMode_SINGLE_INSTANCE_keepsOneInstance : Fld s s.heap s_LaunchMode_SINGLE_INSTANCE "com/example/usher/usher/LaunchMode" "keepsOneInstance" "Z" (.int (1 : Int32)) := Fld.start ((fld_at v_LaunchMode_SINGLE_INSTANCE).symm.trans (own_eqI n11))
  have F_LaunchMode_SINGLE_TOP_ordinal : Fld s s.heap s_LaunchMode_SINGLE_TOP "java/lang/Enum" "ordinal" "I" (.int (1 : Int32)) := Fld.start ((fld_at v_LaunchMode_SINGLE_TOP).symm.trans (own_eqI n12))
  have F_LaunchMode_SINGLE_TOP_keepsOneInstance : Fld s s.heap s_LaunchMode_SINGLE_TOP "com/example/usher/usher/LaunchMode" "keepsOneInstance" "Z" (.int (0 : Int32)) := Fld.start ((fld_at v_LaunchMode_SINGLE_TOP).symm.trans (own_eqI n13))
  have F_LaunchMode_SINGLE_TASK_keepsOneInstance : Fld s s.heap s_LaunchMode_SINGLE_TASK "com/example/usher/usher/LaunchMode" "keepsOneInstance" "Z" (.int (1 : Int32)) := Fld.start ((fld_at v_LaunchMode_SINGLE_TASK).symm.trans (own_eqI n13'))
  obtain ⟨n, o, h1, h2, h3, _, L, rfl, ⟨rfl, N⟩, hq⟩ := own_rm0 l s _ hw tables_1 i0 i1 s_LaunchMode_STANDARD s_LaunchMode_SINGLE_TOP s_LaunchMode_SINGLE_TASK s_LaunchMode_SINGLE_INSTANCE s_LaunchMode_SINGLE_INSTANCE_PER_TASK s.heap S_LaunchMode_STANDARD E_LaunchMode_STANDARD S_LaunchMode_SINGLE_TOP E_LaunchMode_SINGLE_TOP S_LaunchMode_SINGLE_TASK E_LaunchMode_SINGLE_TASK S_LaunchMode_SINGLE_INSTANCE E_LaunchMode_SINGLE_INSTANCE S_LaunchMode_SINGLE_INSTANCE_PER_TASK E_LaunchMode_SINGLE_INSTANCE_PER_TASK F_LaunchMode_STANDARD_ordinal F_LaunchMode_STANDARD_keepsOneInstance F_LaunchMode_SINGLE_INSTANCE_PER_TASK_ordinal F_LaunchMode_SINGLE_INSTANCE_PER_TASK_keepsOneInstance F_LaunchMode_SINGLE_TASK_ordinal F_LaunchMode_SINGLE_INSTANCE_ordinal F_LaunchMode_SINGLE_INSTANCE_keepsOneInstance F_LaunchMode_SINGLE_TOP_ordinal F_LaunchMode_SINGLE_TOP_keepsOneInstance F_LaunchMode_SINGLE_TASK_keepsOneInstance p e ha hc hk s m _ below hf ((Spec.applies_iff_loose hf).mp happ).1 ⟨rfl, State.Warmed39.refl s, rfl⟩ trivial
  refine ⟨n, _, h1, h2, h3, hpost _ _ _ _ _ _ ⟨Cond.after_iff.mpr rfl, Cond.after_iff.mpr (eq_i res_at (Term.int_eval (1)) rfl), trivial⟩ ⟨hq.1, hq.2.1, (hq.2.2.sift fun y hy => Or.inr (N y hy)).mono (by decide) (by decide)⟩⟩
theorem main_1_1 : Claimed_1_1 := own_comes fun _ _ _ _ _ _ h hF => ⟨h.1, hF⟩
theorem main_1_2 : Claimed_1_2 := own_comes fun _ _ _ _ _ _ h hF => ⟨h.2.1, hF⟩
end Jvm.Pilot.@@N@@
namespace Jvm.Pilot.@@N@@
open Jvm Jvm.ClassFile Sem Op Lib Jvm.Free Jvm.Stand Jvm.Pilot.@@N@@.Jvm.D
/-! MADE BY PROGRAM (witnessworld.py) out of the Statement's table words and the real class files: 13 classes; the members and pool entries that the words name. The judged class is class 1, her method 1. -/
namespace start1
open Jvm.ClassFile
def u (s : String) : CpInfo := .utf8 (stringToUtf16 s)
/-- a pool by its gaps: so many unusable entries, then the entry; so many at the end -/
def gap : Nat → List CpInfo → List CpInfo
  | 0, r => r
  | n + 1, r => .unusable :: gap n r
def poolList (es : List (Nat × CpInfo)) (last : Nat) : List CpInfo := es.foldr (fun e r => gap e.1 (e.2 :: r)) (gap last [])
def pool (es : List (Nat × CpInfo)) (last : Nat) : Array CpInfo := ⟨poolList es last⟩
def fileOf (pool : Array CpInfo) (this : Nat) (attrs : Array Attribute := #[]) (ms : Array MethodInfo := #[]) (fl : Nat := 33) (sup : Nat := 0) (ifs : Array Nat := #[]) (fds : Array FieldInfo := #[]) : ClassFile where
  minorVersion := 0
  majorVersion := 65
  constantPool := pool
  accessFlags := fl
  thisClass := this
  superClass := sup
  interfaces := ifs
  fields := fds
  methods := ms
  attributes := attrs
def plain (name : String) (sup : Option ClassId) : Class where
  name := name
  kind := .ordinary
  loader := none
  accessFlags := 33
  super := sup
  interfaces := #[]
  cf := none
  fields := #[]
  methods := #[]
  instanceTypes := #[]
  staticTypes := #[]
  resolved := #[]
  callSites := []
  init := .initialized
  statics := none
  mirror := none

def pool0 : Array CpInfo := pool [(5, u "<init>"), (0, u "()V"), (1, .class_ 10), (1, u "java/lang/Object")] 113

def k0m0 : Method := { name := "<init>", desc := "()V", sig := { parameters := [], returnType := none }, accessFlags := 1, code := none }
/-- java/lang/Object -/
def k0 : Class := { plain "java/lang/Object" none with
  accessFlags := 33
  interfaces := #[]
  cf := some (fileOf pool0 8 #[] #[{ accessFlags := 1, nameIndex := 5, descriptorIndex := 6, attributes := #[] }] 33 0 #[] #[])
  fields := #[]
  methods := #[k0m0]
  instanceTypes := #[]
  staticTypes := #[]
  resolved := Array.replicate 124 none
  statics := none }

def pool1 : Array CpInfo := pool [(2, .class_ 4), (1, u "java/lang/Object"), (0, u "<init>"), (0, u "()V"), (0, .class_ 8), (0, u "com/example/usher/usher/LaunchMode"), (0, .fieldref 7 10), (0, .nameAndType 11 12), (0, u "STANDARD"), (0, u "Lcom/example/usher/usher/LaunchMode;"), (0, .fieldref 7 14), (0, .nameAndType 15 12), (0, u "SINGLE_TOP"), (0, .fieldref 7 17), (0, .nameAndType 18 12), (0, u "SINGLE_TASK"), (0, .fieldref 7 20), (0, .nameAndType 21 12), (0, u "SINGLE_INSTANCE"), (0, .fieldref 7 23), (0, .nameAndType 24 12), (0, u "SINGLE_INSTANCE_PER_TASK"), (0, .integer 2147483647), (0, .methodref 7 27), (0, .nameAndType 28 29), (0, u "carriesNewTask"), (0, u "(Z)Z"), (0, .methodref 7 31), (0, .nameAndType 32 33), (0, u "keepsOneInstance"), (0, u "()Z"), (0, .class_ 35), (0, u "com/example/usher/usher/LaunchModeCarriesNewTaskPinLaw"), (2, u "law"), (0, u "(II)Z")] 5

def k1m0 : Method := { name := "<init>", desc := "()V", sig := { parameters := [], returnType := none }, accessFlags := 2, code := none }
def k1c1 : Code := { maxStack := 4, maxLocals := 8, code := code, exceptionTable := #[], attributes := #[] }
def k1m1 : Method := { name := "law", desc := "(II)Z", sig := { parameters := [.int, .int], returnType := some .boolean }, accessFlags := 9, code := some k1c1 }
/-- com/example/usher/usher/LaunchModeCarriesNewTaskPinLaw -/
def k1 : Class := { plain "com/example/usher/usher/LaunchModeCarriesNewTaskPinLaw" (some 0) with
  accessFlags := 49
  interfaces := #[]
  cf := some (fileOf pool1 34 #[] #[{ accessFlags := 2, nameIndex := 5, descriptorIndex := 6, attributes := #[] }, { accessFlags := 9, nameIndex := 38, descriptorIndex := 39, attributes := #[] }] 49 2 #[] #[])
  fields := #[]
  methods := #[k1m0, k1m1]
  instanceTypes := #[]
  staticTypes := #[]
  resolved := Array.replicate 45 none
  statics := none }

def pool2 : Array CpInfo := pool [(1, .class_ 2), (0, u "java/lang/constant/Constable"), (0, .class_ 4), (0, u "java/lang/Object")] 6

/-- java/lang/constant/Constable -/
def k2 : Class := { plain "java/lang/constant/Constable" (some 0) with
  accessFlags := 1537
  interfaces := #[]
  cf := some (fileOf pool2 1 #[] #[] 1537 3 #[] #[])
  fields := #[]
  methods := #[]
  instanceTypes := #[]
  staticTypes := #[]
  resolved := Array.replicate 11 none
  statics := none }

def pool3 : Array CpInfo := pool [(1, .class_ 2), (0, u "java/lang/Comparable"), (0, .class_ 4), (0, u "java/lang/Object")] 7

/-- java/lang/Comparable -/
def k3 : Class := { plain "java/lang/Comparable" (some 0) with
  accessFlags := 1537
  interfaces := #[]
  cf := some (fileOf pool3 1 #[] #[] 1537 3 #[] #[])
  fields := #[]
  methods := #[]
  instanceTypes := #[]
  staticTypes := #[]
  resolved := Array.replicate 12 none
  statics := none }

def pool4 : Array CpInfo := pool [(1, .class_ 2), (0, u "java/io/Serializable"), (0, .class_ 4), (0, u "java/lang/Object")] 2

/-- java/io/Serializable -/
def k4 : Class := { plain "java/io/Serializable" (some 0) with
  accessFlags := 1537
  interfaces := #[]
  cf := some (fileOf pool4 1 #[] #[] 1537 3 #[] #[])
  fields := #[]
  methods := #[]
  instanceTypes := #[]
  staticTypes := #[]
  resolved := Array.replicate 7 none
  statics := none }

def pool5 : Array CpInfo := pool [(2, .class_ 4), (1, u "java/lang/Enum"), (0, u "name"), (0, u "Ljava/lang/String;"), (0, .fieldref 2 8), (0, .nameAndType 9 10), (0, u "ordinal"), (0, u "I"), (1, .class_ 14), (1, u "java/lang/Object"), (4, u "hash"), (86, .class_ 108), (1, u "java/lang/Enum$EnumDesc"), (2, .class_ 112), (0, u "java/lang/constant/Constable"), (0, .class_ 114), (0, u "java/lang/Comparable"), (0, .class_ 116), (0, u "java/io/Serializable"), (9, u "()I")] 77

def k5c0 : Code := { maxStack := 1, maxLocals := 1, code := jdk_37_method_2_code, exceptionTable := #[], attributes := #[] }
def k5m0 : Method := { name := "ordinal", desc := "()I", sig := { parameters := [], returnType := some .int }, accessFlags := 17, code := some k5c0 }
/-- java/lang/Enum -/
def k5 : Class := { plain "java/lang/Enum" (some 0) with
  accessFlags := 1057
  interfaces := #[2, 3, 4]
  cf := some (fileOf pool5 2 #[.nestMembers #[106]] #[{ accessFlags := 17, nameIndex := 9, descriptorIndex := 126, attributes := #[] }] 1057 12 #[111, 113, 115] #[{ accessFlags := 18, nameIndex := 5, descriptorIndex := 6, attributes := #[] }, { accessFlags := 18, nameIndex := 9, descriptorIndex := 10, attributes := #[] }, { accessFlags := 2, nameIndex := 19, descriptorIndex := 10, attributes := #[] }])
  fields := #[{ name := "name", type := (.object "java/lang/String"), accessFlags := 18, slot := 0, constantValue := 0 }, { name := "ordinal", type := .int, accessFlags := 18, slot := 1, constantValue := 0 }, { name := "hash", type := .int, accessFlags := 2, slot := 2, constantValue := 0 }]
  methods := #[k5m0]
  instanceTypes := #[(.object "java/lang/String"), .int, .int]
  staticTypes := #[]
  resolved := Array.replicate 204 none
  statics := none }

def pool6 : Array CpInfo := pool [(1, .class_ 2), (0, u "com/example/usher/usher/LaunchMode"), (2, u "STANDARD"), (0, u "Lcom/example/usher/usher/LaunchMode;"), (2, u "SINGLE_TOP"), (2, u "SINGLE_TASK"), (2, u "SINGLE_INSTANCE"), (2, u "SINGLE_INSTANCE_PER_TASK"), (2, u "$VALUES"), (0, u "[Lcom/example/usher/usher/LaunchMode;"), (6, .class_ 31), (1, u "java/lang/Enum"), (8, u "manifestName"), (0, u "Ljava/lang/String;"), (0, .fieldref 1 43), (0, .nameAndType 44 45), (0, u "keepsOneInstance"), (0, u "Z"), (34, .methodref 1 81), (0, .nameAndType 82 83), (0, u "ordinal"), (0, u "()I"), (48, u "()Z"), (5, u "(Z)Z"), (0, u "carriesNewTask")] 43

def k6c0 : Code := { maxStack := 1, maxLocals := 1, code := prog_40_method_5_code, exceptionTable := #[], attributes := #[] }
def k6m0 : Method := { name := "keepsOneInstance", desc := "()Z", sig := { parameters := [], returnType := some .boolean }, accessFlags := 0, code := some k6c0 }
def k6c1 : Code := { maxStack := 4, maxLocals := 2, code := prog_40_method_10_code, exceptionTable := #[], attributes := #[] }
def k6m1 : Method := { name := "carriesNewTask", desc := "(Z)Z", sig := { parameters := [.boolean], returnType := some .boolean }, accessFlags := 0, code := some k6c1 }
/-- com/example/usher/usher/LaunchMode -/
def k6 : Class := { plain "com/example/usher/usher/LaunchMode" (some 5) with
  accessFlags := 16432
  interfaces := #[]
  cf := some (fileOf pool6 1 #[] #[{ accessFlags := 0, nameIndex := 44, descriptorIndex := 132, attributes := #[] }, { accessFlags := 0, nameIndex := 139, descriptorIndex := 138, attributes := #[] }] 16432 29 #[] #[{ accessFlags := 16409, nameIndex := 5, descriptorIndex := 6, attributes := #[] }, { accessFlags := 16409, nameIndex := 9, descriptorIndex := 6, attributes := #[] }, { accessFlags := 16409, nameIndex := 12, descriptorIndex := 6, attributes := #[] }, { accessFlags := 16409, nameIndex := 15, descriptorIndex := 6, attributes := #[] }, { accessFlags := 16409, nameIndex := 18, descriptorIndex := 6, attributes := #[] }, { accessFlags := 18, nameIndex := 40, descriptorIndex := 41, attributes := #[] }, { accessFlags := 18, nameIndex := 44, descriptorIndex := 45, attributes := #[] }, { accessFlags := 4122, nameIndex := 21, descriptorIndex := 22, attributes := #[] }])
  fields := #[{ name := "STANDARD", type := (.object "com/example/usher/usher/LaunchMode"), accessFlags := 16409, slot := 0, constantValue := 0 }, { name := "SINGLE_TOP", type := (.object "com/example/usher/usher/LaunchMode"), accessFlags := 16409, slot := 1, constantValue := 0 }, { name := "SINGLE_TASK", type := (.object "com/example/usher/usher/LaunchMode"), accessFlags := 16409, slot := 2, constantValue := 0 }, { name := "SINGLE_INSTANCE", type := (.object "com/example/usher/usher/LaunchMode"), accessFlags := 16409, slot := 3, constantValue := 0 }, { name := "SINGLE_INSTANCE_PER_TASK", type := (.object "com/example/usher/usher/LaunchMode"), accessFlags := 16409, slot := 4, constantValue := 0 }, { name := "manifestName", type := (.object "java/lang/String"), accessFlags := 18, slot := 3, constantValue := 0 }, { name := "keepsOneInstance", type := .boolean, accessFlags := 18, slot := 4, constantValue := 0 }, { name := "$VALUES", type := (.array (.object "com/example/usher/usher/LaunchMode")), accessFlags := 4122, slot := 5, constantValue := 0 }]
  methods := #[k6m0, k6m1]
  instanceTypes := #[(.object "java/lang/String"), .int, .int, (.object "java/lang/String"), .boolean]
  staticTypes := #[(.object "com/example/usher/usher/LaunchMode"), (.object "com/example/usher/usher/LaunchMode"), (.object "com/example/usher/usher/LaunchMode"), (.object "com/example/usher/usher/LaunchMode"), (.object "com/example/usher/usher/LaunchMode"), (.array (.object "com/example/usher/usher/LaunchMode"))]
  resolved := Array.replicate 183 none
  statics := some 0 }

def pool7 : Array CpInfo := pool [(1, u "java/lang/Cloneable"), (0, .class_ 1), (0, u "java/lang/Object"), (0, .class_ 3)] 3

/-- java/lang/Cloneable -/
def k7 : Class := { plain "java/lang/Cloneable" (some 0) with
  accessFlags := 1537
  interfaces := #[]
  cf := some (fileOf pool7 2 #[] #[] 1537 4 #[] #[])
  fields := #[]
  methods := #[]
  instanceTypes := #[]
  staticTypes := #[]
  resolved := Array.replicate 8 none
  statics := none }

/-- the primitive byte -/
def k8 : Class := { plain "byte" none with kind := .primitive 'B', accessFlags := 0x411 }
/-- [B -/
def k9 : Class := { plain "[B" (some 0) with kind := .array 8 .byte, interfaces := #[7, 4], accessFlags := 1041 }

/-- the primitive int -/
def k10 : Class := { plain "int" none with kind := .primitive 'I', accessFlags := 0x411 }
/-- [I -/
def k11 : Class := { plain "[I" (some 0) with kind := .array 10 .int, interfaces := #[7, 4], accessFlags := 1041 }

/-- [Lcom/example/usher/usher/LaunchMode; -/
def k12 : Class := { plain "[Lcom/example/usher/usher/LaunchMode;" (some 0) with kind := .array 6 (.object "com/example/usher/usher/LaunchMode"), interfaces := #[7, 4], accessFlags := 1041 }

def heap : Heap := #[{ cls := 6, slots := #[.ref 1, .ref 2, .ref 3, .ref 4, .ref 5, .null], vm := .statics 6 },
  { cls := 6, slots := #[.null, .int 0, .int 0, .null, .int 0], vm := .none },
  { cls := 6, slots := #[.null, .int 1, .int 0, .null, .int 0], vm := .none },
  { cls := 6, slots := #[.null, .int 2, .int 0, .null, .int 1], vm := .none },
  { cls := 6, slots := #[.null, .int 3, .int 0, .null, .int 1], vm := .none },
  { cls := 6, slots := #[.null, .int 4, .int 0, .null, .int 1], vm := .none }]
def classes : Array Class := #[k0, k1, k2, k3, k4, k5, k6, k7, k8, k9, k10, k11, k12]
def interned : List (Array UInt16 × Addr) := []
def slotsUsed : Nat := 31
def theMethod : MethodId := ⟨1, 1⟩
def args0 : Array Value := #[.int 5, .int 1]
def aboutOver (below : List Frame) : State where
  vm := { classes := classes, interned := interned.toArray }
  heap := heap
  slotsUsed := slotsUsed
  threads := #[{ frames := .invoking theMethod args0 :: below }]
def below0 : List Frame := [.native { method := ⟨0, 0⟩, args := #[] }]
def about1 : State := aboutOver below0
def p0 : Program := .bare "" "" ""
def e0 : Env := launch0.env 0 0 0
theorem w_frames : about1.frames = Frame.invoking theMethod args0 :: below0 := rfl
set_option maxRecDepth 65536 in
theorem w_args : argsFit about1.vm theMethod args0 = true := by decide +kernel
set_option maxRecDepth 65536 in
theorem w_heap : heapFits about1 = true := by decide +kernel
set_option maxRecDepth 65536 in
theorem w_runnable : about1.curStatus? = some .runnable := by decide +kernel
set_option maxRecDepth 65536 in
theorem w_alone : about1.alone = true := by decide +kernel
set_option maxRecDepth 65536 in
theorem w_named : about1.methodNamed? x = some theMethod := by decide +kernel
set_option maxRecDepth 65536 in
theorem w_hears : about1.hears theMethod below0 = true := by decide +kernel
set_option maxRecDepth 65536 in
theorem w_ripe : about1.ripe theMethod args0 below0 = true := by decide +kernel
theorem w_running : about1.status = .running := rfl
set_option maxRecDepth 65536 in
theorem w_room : about1.hasRoom e0.platform room_1 = true :=
  launch0.hasRoom_least _ room_1 (by decide +kernel) (by decide +kernel) (by decide +kernel) (by decide +kernel) (by decide +kernel) (by decide +kernel)
theorem allAtoms_all (ts : List Jvm.Cond) (a : Array Jvm.Value) (st : Jvm.State) : (allAtoms ts).before a st = ts.all (fun c => c.before a st) := by
  induction ts with
  | nil => rfl
  | cons c t ih =>
    show (Jvm.Cond.and c (allAtoms t)).before a st = _
    rw [Jvm.Cond.before_and, ih, List.all_cons]
def words1 : List Jvm.Cond := Jvm.Cond.code x code maxLocals ret :: tables_1
/-- a 'code' word, met by the world's own term for the bytes: nothing is compared byte by byte -/
theorem code_word {y : MethodName} {bytes : ByteArray} {mx : Nat} {rt : Option FieldType} {a : Array Value} {s : State} {m : MethodId} {meth : Method} {c : Code} (h1 : s.methodNamed? y = some m) (h2 : s.vm.method? m = some meth) (h3 : meth.code = some c) (h4 : c.code = bytes)
    (h5 : (c.maxLocals == mx && c.exceptionTable.isEmpty && decide (c.maxStack ≤ mostOperands) && decide (meth.sig.returnType = rt) && !meth.locks && decide (parseMethodDescriptor y.desc = some meth.sig)) = true) : (Jvm.Cond.code y bytes mx rt).before a s = true := by
  simp only [Bool.and_eq_true, beq_iff_eq, Bool.not_eq_true', decide_eq_true_eq] at h5
  obtain ⟨⟨⟨⟨⟨g1, g2⟩, g3⟩, g4⟩, g5⟩, g6⟩ := h5
  simp [Cond.before, Cond.holds, Cond.value, h1, h2, h3, h4, g1, g2, g3, g4, g5, g6]
def isCode : Jvm.Cond → Bool
  | .code _ _ _ _ => true
  | _ => false
theorem all_split {L : List Jvm.Cond} {P : Jvm.Cond → Bool} (h1 : L.all (fun c => isCode c || P c) = true) (h2 : ∀ c ∈ L.filter isCode, P c = true) : L.all P = true := by
  refine List.all_eq_true.mpr fun c hc => ?_
  have h := List.all_eq_true.mp h1 c hc
  rcases Bool.eq_false_or_eq_true (isCode c) with hi | hi
  · exact h2 c (List.mem_filter.mpr ⟨hc, hi⟩)
  · simpa [hi] using h
set_option maxRecDepth 65536 in
theorem w_c0 : (Jvm.Cond.code x code maxLocals ret).before args0 about1 = true := code_word (m := ⟨1, 1⟩) (meth := k1m1) (c := k1c1) (by decide +kernel) rfl rfl rfl (by decide +kernel)
set_option maxRecDepth 65536 in
theorem w_c1 : (Jvm.Cond.code ({ cls := "com/example/usher/usher/LaunchMode", name := "carriesNewTask", desc := "(Z)Z" } : Jvm.MethodName) prog_40_method_10_code (2 : Nat) (Option.some Jvm.ClassFile.FieldType.boolean)).before args0 about1 = true := code_word (m := ⟨6, 1⟩) (meth := k6m1) (c := k6c1) (by decide +kernel) rfl rfl rfl (by decide +kernel)
set_option maxRecDepth 65536 in
theorem w_c2 : (Jvm.Cond.code ({ cls := "java/lang/Enum", name := "ordinal", desc := "()I" } : Jvm.MethodName) jdk_37_method_2_code (1 : Nat) (Option.some Jvm.ClassFile.FieldType.int)).before args0 about1 = true := code_word (m := ⟨5, 0⟩) (meth := k5m0) (c := k5c0) (by decide +kernel) rfl rfl rfl (by decide +kernel)
set_option maxRecDepth 65536 in
theorem w_c3 : (Jvm.Cond.code ({ cls := "com/example/usher/usher/LaunchMode", name := "keepsOneInstance", desc := "()Z" } : Jvm.MethodName) prog_40_method_5_code (1 : Nat) (Option.some Jvm.ClassFile.FieldType.boolean)).before args0 about1 = true := code_word (m := ⟨6, 0⟩) (meth := k6m0) (c := k6c0) (by decide +kernel) rfl rfl rfl (by decide +kernel)
def codes1 : List Jvm.Cond := [Jvm.Cond.code x code maxLocals ret, Jvm.Cond.code ({ cls := "com/example/usher/usher/LaunchMode", name := "carriesNewTask", desc := "(Z)Z" } : Jvm.MethodName) prog_40_method_10_code (2 : Nat) (Option.some Jvm.ClassFile.FieldType.boolean), Jvm.Cond.code ({ cls := "java/lang/Enum", name := "ordinal", desc := "()I" } : Jvm.MethodName) jdk_37_method_2_code (1 : Nat) (Option.some Jvm.ClassFile.FieldType.int), Jvm.Cond.code ({ cls := "com/example/usher/usher/LaunchMode", name := "keepsOneInstance", desc := "()Z" } : Jvm.MethodName) prog_40_method_5_code (1 : Nat) (Option.some Jvm.ClassFile.FieldType.boolean)]
set_option maxRecDepth 65536 in
theorem codes_eq : words1.filter isCode = codes1 := rfl
theorem w_codes : ∀ c ∈ words1.filter isCode, c.before args0 about1 = true := by
  rw [codes_eq]
  intro c hc
  simp only [codes1, List.mem_cons, List.not_mem_nil, or_false] at hc
  rcases hc with rfl | rfl | rfl | rfl
  · exact w_c0
  · exact w_c1
  · exact w_c2
  · exact w_c3
set_option maxRecDepth 65536 in
theorem w_t1 : (words1.take 24).all (fun c => isCode c || c.before args0 about1) = true := by decide +kernel
set_option maxRecDepth 65536 in
theorem w_t2 : (words1.drop 24).all (fun c => isCode c || c.before args0 about1) = true := by decide +kernel
theorem w_tables : (allAtoms (Jvm.Cond.code x code maxLocals ret :: tables_1)).before args0 about1 = true := by
  rw [allAtoms_all]
  show words1.all (fun c => c.before args0 about1) = true
  refine all_split ?_ w_codes
  rw [← List.take_append_drop 24 words1, List.all_append, w_t1, w_t2]
  rfl
set_option maxRecDepth 65536 in
theorem w_case : (Jvm.Cond.and given_1 narrow_1).before args0 about1 = true := by decide +kernel
theorem w_applies : (headSpec (Jvm.Cond.code x code maxLocals ret :: tables_1) room_1).applies x e0.platform about1 = true :=
  (Spec.applies_iff w_frames).mpr ⟨w_running, w_runnable, w_alone, w_named, w_hears, w_ripe, w_room, w_tables⟩
theorem atStart : AtStart classFile x code maxLocals ret World_1 tables_1 room_1 Calls_1 rest_1 Pre_1 launch0 p0 e0 about1 theMethod args0 below0 :=
  ⟨lists_1, trivial, launch0.admits_env _ _ _, launch0.least_env, fairChoices_fair.cas, fairChoices_fair.clock, w_frames, w_args, w_heap, w_applies, trivial, trivial, w_case⟩
end start1
theorem witness_1 : WitnessClaimed_1 := ⟨start1.p0, start1.e0, start1.about1, start1.theMethod, start1.args0, start1.below0, start1.atStart⟩
end Jvm.Pilot.@@N@@
