import JvmDerived
import JvmDerived.Pilot.@@N@@Statement
import JvmDerived.Pilot.@@N@@Code
set_option linter.unusedVariables false
set_option linter.unusedSimpArgs false
namespace Jvm.RoadKit
open Sem ClassFile Op Lib Jvm.Stand Jvm.Free Jvm.LawKit
section New
variable {p : Program} {l : Launch} {e : Env} {R : Room} {s : State} {m : MethodId} {args : Array Value} {below : List Frame} {meth : Method} {c : Code} {T : State} {locs : List Loc} {cells slots : Nat}
theorem retI (X : Stand p l e R s m args below meth c T locs cells slots) (hx : p.tables.exec = Jvm.exec) {pc : Nat} {Ls : Array Slot} {z : Int32} {rest : List Value} (hret : meth.sig.returnType = some .int) (hd : decode c.code pc = .ok (.ireturn, 1)) {fs : List Frame}
    (hl : ∀ (f : JFrame) (acts : List Action), f.method = m → f.locked = none → f.entered = [] → (doReturn e (T.setTop f) acts (some (.int z))).1 = T.setFrames fs) : Steps p.tables e below (T.setTop (mkF m pc Ls (.int z :: rest))) (T.setFrames fs) := by
  have hm' : T.vm.method? m = some meth := X.method'
  have hn : narrow .int (.int z) = .int z := rfl
  show Steps p.tables e below (T.setTop { method := m, pc := pc, locals := Ls, stack := _ :: rest, locked := none }) _
  jvm_step X.here [X.here.top, hx, hd, hm', hret, hn]
  first | (intro acts; rw [hl _ acts rfl rfl rfl]) | rw [hl _ _ rfl rfl rfl]
  exact Steps.refl _
end New
end Jvm.RoadKit
namespace Jvm.Pilot.@@N@@
open Jvm Jvm.ClassFile Sem Op Lib Jvm.Free Jvm.Stand Jvm.LawKit Jvm.RoadKit Bundle Jvm.Pilot.@@N@@.Jvm.D
section OwnKit
variable {p : Program} {l : Launch} {e : Env} {R : Room} {s : State} {m : MethodId} {args : Array Value} {below : List Frame} {meth : Method} {c : Code} {T S0 Z : State} {locs : List Loc} {cells slots : Nat} {a0 : Array Value} {h h0 : Heap} {own C : String} {index count : Nat} {y z : MethodName} {bytes : ByteArray} {mx : Nat} {rt : Option FieldType} {rm : Room} {as : Array Value} {Φ : Option Value → Heap → Prop}
/-- what a body leaves: it wrote in new cells alone; Φ of what it returns and of the heap -/
def own_Q (Z : State) (Φ : Option Value → Heap → Prop) (v : Option Value) (h : Heap) (L : List Loc) : Prop := Fr Z.heap.size L ∧ Φ v h
/-- the narrow contract (nothing is interned) -/
def own_NC (l : Launch) (Z : State) (y : MethodName) (bytes : ByteArray) (mx : Nat) (rt : Option FieldType) (rm : Room) (as : Array Value) (h0 : Heap) (Φ : Option Value → Heap → Prop) : Prop :=
  MetFree l y (head1 [Jvm.Cond.code y bytes mx rt] rm) (fun a U => a = as ∧ Z.Warmed39 U.vm ∧ U.heap = h0) (fun _ _ _ _ _ => True) (fun _ U o U' => ∃ v L, o = .returned v ∧ own_Q Z Φ v U'.heap L ∧ FrameEnd U o U' L rm.cells rm.slots)
/-- what a walk of the body has to show -/
def own_NW (l : Launch) (Z : State) (y : MethodName) (bytes : ByteArray) (mx : Nat) (rt : Option FieldType) (rm : Room) (as : Array Value) (h0 : Heap) (Φ : Option Value → Heap → Prop) : Prop :=
  ∀ (p : Program) (e : Env) (s : State) (m : MethodId) (below : List Frame) (meth : Method) (c : Code) (s₁ S0 : State), Stand p l e rm s m as below meth c s₁ [] 0 0 → p.tables.exec = Jvm.exec → c.code = bytes → c.maxLocals = mx → meth.sig.returnType = rt → meth.name = y.name → s.vm.findClass y.cls = some m.cls → Z.Warmed39 s.vm → s₁.heap = h0 →
    Steps p.tables e below S0 (s₁.setTop (entryFrame m as mx)) →
    ∃ (T : State) (v : Option Value) (locs : List Loc) (cells slots : Nat), Stand p l e rm s m as below meth c T locs cells slots ∧ cells ≤ rm.cells ∧ slots ≤ rm.slots ∧ (rt = none → v = none) ∧ Fr Z.heap.size locs ∧ Φ v T.heap ∧
      ∀ fs, (∀ (f : JFrame) (acts : List Action), f.method = m → f.locked = none → f.entered = [] → (doReturn e (T.setTop f) acts v).1 = T.setFrames fs) → Steps p.tables e below S0 (T.setFrames fs)
theorem own_met {ws : List Jvm.Cond} (hx : plainFor y = true) (walk : own_NW l Z y bytes mx rt rm as h0 Φ) :
    MetFree l y (head1 (Jvm.Cond.code y bytes mx rt :: ws) rm) (fun a U => a = as ∧ Z.Warmed39 U.vm ∧ U.heap = h0) (fun _ _ _ _ _ => True) (fun _ U o U' => ∃ v L, o = .returned v ∧ own_Q Z Φ v U'.heap L ∧ FrameEnd U o U' L rm.cells rm.slots) := by
  refine MetFree.of_bodySF hx hisR ?_
  intro p e s m args below meth c s₁ Bd hml0 hP hK
  obtain ⟨rfl, hZ, hh⟩ := hP
  obtain ⟨T, v, locs, cells, slots, X, hc, hs, hv, hN, hΦ, st⟩ := walk p e s m below meth c s₁ _ (Stand.of_body Bd) Bd.exec Bd.bytes hml0 Bd.returns (name_of_methodNamed Bd.named Bd.method).1 (findClass_of_methodNamed Bd.named) hZ (by rw [← hh, Bd.state]; rfl) (Steps.refl _)
  obtain ⟨fs, hr, hrun, hended, hW, hsame⟩ := X.leave (v := v) (fun q => hv (by rw [← Bd.returns]; exact q))
  exact ⟨_, _, st fs hr, hrun, hended, _, _, rfl, ⟨hN, hΦ⟩, ⟨_, rfl⟩, hW, hsame.mono hc hs⟩
theorem own_nc (hx : plainFor y = true) (walk : own_NW l Z y bytes mx rt rm as h0 Φ) : own_NC l Z y bytes mx rt rm as h0 Φ := own_met hx walk
theorem own_NC.imp {Ψ : Option Value → Heap → Prop} (H : own_NC l Z y bytes mx rt rm as h0 Φ) (q : ∀ v h, Φ v h → Ψ v h) : own_NC l Z y bytes mx rt rm as h0 Ψ := by
  intro p e ha hc hk s m args below hf happ hP hK
  obtain ⟨n, o, h1, h2, h3, v, L, rfl, ⟨hN, hΦ⟩, hq⟩ := H p e ha hc hk s m args below hf happ hP hK
  exact ⟨n, _, h1, h2, h3, v, L, rfl, ⟨hN, q _ _ hΦ⟩, hq⟩
/-- a payer of the standing shape -/
abbrev own_Pay (l : Launch) (R : Room) (p : Program) (e : Env) (below : List Frame) (s : State) (args : Array Value) (y : MethodName) (len W : Nat) (as : Array Value) (h : Heap) (kc ks : Nat) (Q : Option Value → Heap → List Loc → Prop) : Prop :=
  Back l R p e below s args y len W (fun P a => a = as ∧ P.U.heap = h ∧ P.cells + kc ≤ R.cells ∧ P.slots + ks ≤ R.slots) (fun P _ v B => ∃ L, Q v B.U.heap L ∧ B.locs = P.locs ++ L ∧ B.cells = P.cells + kc ∧ B.slots = P.slots + ks)
theorem own_pay {len W : Nat} (H : own_NC l Z y bytes mx rt rm as h Φ) (hZ : Z.Warmed39 s.vm) (wc : (Cond.code y bytes mx rt).before a0 Z = true) (wz : (Cond.initialized y.cls).before a0 Z = true) (hf : rm.frames + 1 ≤ R.frames) (hl : W + (mx + 11) + rm.locals ≤ R.locals) :
    own_Pay l R p e below s args y len W as h rm.cells rm.slots (own_Q Z Φ) := backOf H hZ wc wz hf hl
variable {W kc ks : Nat} {Q : Option Value → Heap → List Loc → Prop} {g : JFrame} {argsL rest : List Value} {b : Addr}
theorem own_stat (X : Stand p l e R s m args below meth c T locs cells slots) (hx : p.tables.exec = Jvm.exec) (hml : c.maxLocals = mx) (hZ : Z.Warmed39 s.vm) (hown : s.vm.findClass own = some m.cls) {bytes' : ByteArray} {mx' : Nat} {rt' : Option FieldType}
    (w1 : (Cond.methodLink own index y).before a0 Z = true) (w2 : (Cond.static y).before a0 Z = true) (w3 : (Cond.initialized y.cls).before a0 Z = true) (w4 : (Cond.code y bytes' mx' rt').before a0 Z = true) (hy : y.cls ≠ "java/lang/invoke/MethodHandle" ∧ y.cls ≠ "java/lang/invoke/VarHandle")
    (hK : own_Pay l R p e below s args y 3 W argsL.toArray h kc ks Q) (cm : Steps p.tables e below S0 (T.setTop g)) (hg : g.method = m) (hsz : g.locals.size = mx)
    (hlen : ∀ sig, parseMethodDescriptor y.desc = some sig → argsL.length = sig.parameters.length) (hst : g.stack = argsL.reverse ++ rest) (hW : 2 * g.monitorRoom + (rest.map fun v => v.category).sum ≤ W) (hd : decode c.code g.pc = .ok (.invokestatic index, 3)) (eT : T.heap = h) (hc : cells + kc ≤ R.cells) (hs : slots + ks ≤ R.slots) :
    ∃ (v : Option Value) (T' : State) (L : List Loc), Stand p l e R s m args below meth c T' (locs ++ L) (cells + kc) (slots + ks) ∧ Q v T'.heap L ∧ Steps p.tables e below S0 (T'.setTop { g with pc := g.pc + 3, stack := v.toList ++ rest }) := by
  obtain ⟨v, _, ⟨T', L', k', n'⟩, -, X', ⟨L, hQ, l1, l2, l3⟩, st⟩ := Jvm.LawKit.callS X hx (y := y) hown (mvT hZ w1) (mvT hZ w2) (mvT hZ w3) (mvT hZ w4) hy hK hg (by rw [hml]; exact hsz) (argsL := argsL) (rest := rest) hlen hst hW hd (fun _ _ => ⟨rfl, eT, hc, hs⟩)
  dsimp only [Pt.U, Pt.locs, Pt.cells, Pt.slots] at X' l1 l2 l3 st hQ
  subst l1 l2 l3
  exact ⟨v, T', L, X', hQ, cm.trans (st _ (Steps.refl _))⟩
theorem own_spec (X : Stand p l e R s m args below meth c T locs cells slots) (hx : p.tables.exec = Jvm.exec) (hml : c.maxLocals = mx) (hZ : Z.Warmed39 s.vm) (hown : s.vm.findClass own = some m.cls) {bytes' : ByteArray} {mx' : Nat} (hy1 : y.name = "<init>")
    (w1 : (Cond.methodLink own index y).before a0 Z = true) (w2 : (Cond.instanceMethod y).before a0 Z = true) (w4 : (Cond.code y bytes' mx' none).before a0 Z = true) (hy : y.cls ≠ "java/lang/invoke/MethodHandle" ∧ y.cls ≠ "java/lang/invoke/VarHandle")
    (hK : own_Pay l R p e below s args y 3 W (.ref b :: argsL).toArray h kc ks Q) (cm : Steps p.tables e below S0 (T.setTop g)) (hg : g.method = m) (hsz : g.locals.size = mx)
    (hlen : ∀ sig, parseMethodDescriptor y.desc = some sig → argsL.length = sig.parameters.length) (hst : g.stack = argsL.reverse ++ .ref b :: rest) (hW : 2 * g.monitorRoom + (rest.map fun v => v.category).sum ≤ W) (hd : decode c.code g.pc = .ok (.invokespecial index, 3)) (eT : T.heap = h) (hc : cells + kc ≤ R.cells) (hs : slots + ks ≤ R.slots) :
    ∃ (v : Option Value) (T' : State) (L : List Loc), Stand p l e R s m args below meth c T' (locs ++ L) (cells + kc) (slots + ks) ∧ Q v T'.heap L ∧ Steps p.tables e below S0 (T'.setTop { g with pc := g.pc + 3, stack := v.toList ++ rest }) := by
  obtain ⟨v, _, ⟨T', L', k', n'⟩, -, X', ⟨L, hQ, l1, l2, l3⟩, st⟩ := X.specialBack hx (y := y) hy1 hown (mvT hZ w1) (mvT hZ w2) (mvT hZ w4) hy hK hg (by rw [hml]; exact hsz) cm (a := b) (argsL := argsL) (rest := rest) hlen hst hW hd (fun _ _ => ⟨rfl, eT, hc, hs⟩)
  dsimp only [Pt.U, Pt.locs, Pt.cells, Pt.slots] at X' l1 l2 l3 st hQ
  subst l1 l2 l3
  exact ⟨v, T', L, X', hQ, st⟩
theorem own_virt (X : Stand p l e R s m args below meth c T locs cells slots) (hx : p.tables.exec = Jvm.exec) (hml : c.maxLocals = mx) (hZ : Z.Warmed39 s.vm) (hown : s.vm.findClass own = some m.cls)
    (w1 : (Cond.methodLink own index y).before a0 Z = true) (w2 : (Cond.declares y).before a0 Z = true) (w3 : (Cond.selects C y z).before a0 Z = true) (w4 : (Cond.instanceMethod z).before a0 Z = true) {Dn : String} (w5 : (Cond.selects Dn y y).before a0 Z = true) (hy : y.cls ≠ "java/lang/invoke/MethodHandle" ∧ y.cls ≠ "java/lang/invoke/VarHandle")
    (hK : own_Pay l R p e below s args z 3 W (.ref b :: argsL).toArray h kc ks Q) (E : Exa Z h b C) (cm : Steps p.tables e below S0 (T.setTop g)) (hg : g.method = m) (hsz : g.locals.size = mx)
    (hlen : ∀ sig, parseMethodDescriptor y.desc = some sig → argsL.length = sig.parameters.length) (hst : g.stack = argsL.reverse ++ .ref b :: rest) (hW : 2 * g.monitorRoom + (rest.map fun v => v.category).sum ≤ W) (hd : decode c.code g.pc = .ok (.invokevirtual index, 3)) (eT : T.heap = h) (hc : cells + kc ≤ R.cells) (hs : slots + ks ≤ R.slots) :
    ∃ (v : Option Value) (T' : State) (L : List Loc), Stand p l e R s m args below meth c T' (locs ++ L) (cells + kc) (slots + ks) ∧ Q v T'.heap L ∧ Steps p.tables e below S0 (T'.setTop { g with pc := g.pc + 3, stack := v.toList ++ rest }) := by
  obtain ⟨cq, kq, qa, qb, qc⟩ := isOf hZ eT E
  obtain ⟨v, _, ⟨T', L', k', n'⟩, -, X', ⟨L, hQ, l1, l2, l3⟩, st⟩ := X.virtualBack hx (y := y) (z := z) hown (mvT hZ w1) (mvT hZ w2) (notFace_of_selects (args := #[]) (mvT hZ w5)) (mvT hZ w3) (mvT hZ w4) hy hK qa qc hg (by rw [hml]; exact hsz) cm (argsL := argsL) (rest := rest) hlen hst hW hd (fun _ _ => ⟨rfl, eT, hc, hs⟩)
  dsimp only [Pt.U, Pt.locs, Pt.cells, Pt.slots] at X' l1 l2 l3 st hQ
  subst l1 l2 l3
  exact ⟨v, T', L, X', hQ, st⟩
theorem own_face (X : Stand p l e R s m args below meth c T locs cells slots) (hx : p.tables.exec = Jvm.exec) (hml : c.maxLocals = mx) (hZ : Z.Warmed39 s.vm) (hown : s.vm.findClass own = some m.cls)
    (w1 : (Cond.methodLink own index y).before a0 Z = true) (w2 : (Cond.declares y).before a0 Z = true) (w3 : (Cond.interfaceMethod y.cls y.cls y.name y.desc).before args s = true) (w4 : (Cond.selects C y z).before a0 Z = true) (w5 : (Cond.instanceMethod z).before a0 Z = true) (w6 : (Cond.publicMethod z).before a0 Z = true) (w7 : (Cond.unhidden C y.name y.desc).before a0 Z = true) (w8 : (Cond.castable C y.cls).before a0 Z = true) (hy : y.cls ≠ "java/lang/invoke/MethodHandle" ∧ y.cls ≠ "java/lang/invoke/VarHandle")
    (hK : own_Pay l R p e below s args z 5 W (.ref b :: argsL).toArray h kc ks Q) (E : Exa Z h b C) (cm : Steps p.tables e below S0 (T.setTop g)) (hg : g.method = m) (hsz : g.locals.size = mx)
    (hlen : ∀ sig, parseMethodDescriptor y.desc = some sig → argsL.length = sig.parameters.length) (hst : g.stack = argsL.reverse ++ .ref b :: rest) (hW : 2 * g.monitorRoom + (rest.map fun v => v.category).sum ≤ W) (hd : decode c.code g.pc = .ok (.invokeinterface index count, 5)) (eT : T.heap = h) (hc : cells + kc ≤ R.cells) (hs : slots + ks ≤ R.slots) :
    ∃ (v : Option Value) (T' : State) (L : List Loc), Stand p l e R s m args below meth c T' (locs ++ L) (cells + kc) (slots + ks) ∧ Q v T'.heap L ∧ Steps p.tables e below S0 (T'.setTop { g with pc := g.pc + 5, stack := v.toList ++ rest }) := by
  obtain ⟨cq, kq, qa, qb, qc⟩ := isOf hZ eT E
  obtain ⟨v, _, ⟨T', L', k', n'⟩, -, X', ⟨L, hQ, l1, l2, l3⟩, st⟩ := X.interfaceBack hx (xi := y) (y := z) hown (mvT hZ w1) (mvT hZ w2) w3 (mvT hZ w4) (mvT hZ w5) (mvT hZ w6) (mvT hZ w7) (mvT hZ w8) hy hK qa qb qc hg (by rw [hml]; exact hsz) cm (argsL := argsL) (rest := rest) hlen hst hW hd (fun _ _ => ⟨rfl, eT, hc, hs⟩)
  dsimp only [Pt.U, Pt.locs, Pt.cells, Pt.slots] at X' l1 l2 l3 st hQ
  subst l1 l2 l3
  exact ⟨v, T', L, X', hQ, st⟩
/-- for the sizes alone -/
theorem own_kz {h1 h2 h3 : Heap} {w1 w2 : List Addr} (K : Keep h1 h2 w1) (K' : Keep h2 h3 w2) : Keep h1 h3 (w1 ++ w2) := by
  refine ⟨Nat.le_trans K.1 K'.1, fun x c q r => K'.2.1 x c (K.2.1 x c q fun z => r (List.mem_append_left _ z)) fun z => r (List.mem_append_right _ z), fun x c q => ?_⟩
  obtain ⟨c1, q1, r1, r2, r3⟩ := K.2.2 x c q
  obtain ⟨c2, q2, t1, t2, t3⟩ := K'.2.2 x c1 q1
  exact ⟨c2, q2, t1.trans r1, t2.trans r2, t3.trans r3⟩
/-- what is returned: a reference -/
theorem own_retR (X : Stand p l e R s m args below meth c T locs cells slots) (hx : p.tables.exec = Jvm.exec) {pc : Nat} {Ls : Array Slot} {w : Value} {t : FieldType} {rest : List Value} (cm : Steps p.tables e below S0 (T.setTop (mkF m pc Ls (w :: rest)))) (hret : meth.sig.returnType = some t) (ht : t.isReference = true) (hw : w.isRef = true) (hd : decode c.code pc = .ok (.areturn, 1)) {fs : List Frame} (hl : ∀ (f : JFrame) (acts : List Action), f.method = m → f.locked = none → f.entered = [] → (doReturn e (T.setTop f) acts (some w)).1 = T.setFrames fs) : Steps p.tables e below S0 (T.setFrames fs) :=
  cm.trans (retOut X hx hret (by cases t <;> first | rfl | cases ht) (Or.inr (Or.inr (Or.inr (Or.inr ⟨rfl, ht, hw⟩)))) hd hl)
end OwnKit
end Jvm.Pilot.@@N@@
namespace Jvm.Pilot.@@N@@
open Jvm Jvm.ClassFile Sem Op Lib Jvm.Free Jvm.Stand Jvm.LawKit Jvm.RoadKit Bundle Jvm.Pilot.@@N@@.Jvm.D
section OwnWide
variable {p : Program} {l : Launch} {e : Env} {R : Room} {s : State} {m : MethodId} {args : Array Value} {below : List Frame} {meth : Method} {c : Code} {T S0 Z : State} {locs : List Loc} {cells slots : Nat} {a0 : Array Value} {h h0 : Heap} {own C : String} {index count : Nat} {y z : MethodName} {bytes : ByteArray} {mx : Nat} {rt : Option FieldType} {rm : Room} {as : Array Value} {Φ : Option Value → Heap → Prop} {EL : List (String × Nat)} {sf : List Addr} {vm0 : Vm}
/-- the wide contract: String constants may be resolved and interned meanwhile; sf: objects handed in that no held constant is -/
def own_WC (l : Launch) (Z : State) (EL : List (String × Nat)) (y : MethodName) (bytes : ByteArray) (mx : Nat) (rt : Option FieldType) (rm : Room) (as : Array Value) (h0 : Heap) (sf : List Addr) (Φ : Option Value → Heap → Prop) : Prop :=
  MetFree l y (head1 [Jvm.Cond.code y bytes mx rt] rm) (fun a U => a = as ∧ Z.Warmed39 U.vm ∧ U.heap = h0 ∧ CHv Z EL U.vm h0 ∧ ∀ x ∈ sf, Safe Z EL U.vm h0 x) (fun _ _ _ _ _ => True) (fun _ U o U' => ∃ v L, o = .returned v ∧ own_Q Z Φ v U'.heap L ∧ CHr Z EL U.vm U.heap U'.vm U'.heap ∧ ReturnedEndW U o U' L rm.cells rm.slots)
def own_WW (l : Launch) (Z : State) (EL : List (String × Nat)) (y : MethodName) (bytes : ByteArray) (mx : Nat) (rt : Option FieldType) (rm : Room) (as : Array Value) (h0 : Heap) (sf : List Addr) (Φ : Option Value → Heap → Prop) : Prop :=
  ∀ (p : Program) (e : Env) (s : State) (m : MethodId) (below : List Frame) (meth : Method) (c : Code) (s₁ S0 : State), Stand p l e rm (s.setVm s.vm) m as below meth c s₁ [] 0 0 → p.tables.exec = Jvm.exec → c.code = bytes → c.maxLocals = mx → meth.sig.returnType = rt → meth.name = y.name → s.vm.findClass y.cls = some m.cls → Z.Warmed39 s.vm → s₁.heap = h0 → s.Since s.vm 0 → CHr Z EL s.vm h0 s.vm h0 → (∀ x ∈ sf, Safe Z EL s.vm h0 x) →
    Steps p.tables e below S0 (s₁.setTop (entryFrame m as mx)) →
    ∃ (T : State) (vm : Vm) (k : Nat) (v : Option Value) (locs : List Loc) (cells slots : Nat), Stand p l e rm (s.setVm vm) m as below meth c T locs cells slots ∧ cells ≤ rm.cells ∧ slots ≤ rm.slots ∧ (rt = none → v = none) ∧ Fr Z.heap.size locs ∧ s.Since vm k ∧ k ≤ T.heap.size ∧ Z.Warmed39 vm ∧ CHr Z EL s.vm h0 vm T.heap ∧ Φ v T.heap ∧
      ∀ fs, (∀ (f : JFrame) (acts : List Action), f.method = m → f.locked = none → f.entered = [] → (doReturn e (T.setTop f) acts v).1 = T.setFrames fs) → Steps p.tables e below S0 (T.setFrames fs)
theorem own_wmet {ws : List Jvm.Cond} (hx : plainFor y = true) (hEL : EW Z a0 EL) (walk : own_WW l Z EL y bytes mx rt rm as h0 sf Φ) :
    MetFree l y (head1 (Jvm.Cond.code y bytes mx rt :: ws) rm) (fun a U => a = as ∧ Z.Warmed39 U.vm ∧ U.heap = h0 ∧ CHv Z EL U.vm h0 ∧ ∀ x ∈ sf, Safe Z EL U.vm h0 x) (fun _ _ _ _ _ => True) (fun _ U o U' => ∃ v L, o = .returned v ∧ own_Q Z Φ v U'.heap L ∧ CHr Z EL U.vm U.heap U'.vm U'.heap ∧ ReturnedEndW U o U' L rm.cells rm.slots) := by
  refine MetFree.of_bodySF hx hisR ?_
  intro p e s m args below meth c s₁ Bd hml0 hP hK
  obtain ⟨rfl, hZ, hh, hC, hsf⟩ := hP
  have X0 := Stand.of_body Bd
  obtain ⟨T, vm, k, v, locs, cells, slots, X, hc, hs, hv, hN, hS, hk, hZ', hCR, hΦ, st⟩ := walk p e s m below meth c s₁ _ X0 Bd.exec Bd.bytes hml0 Bd.returns (name_of_methodNamed Bd.named Bd.method).1 (findClass_of_methodNamed Bd.named) hZ (by rw [← hh, Bd.state]; rfl) ((State.WarmedH.refl s).since _) (CHr.refl hC) hsf (Steps.refl _)
  obtain ⟨fs, hr, hrun, hended, hE1, hE2, hE3, hE4⟩ := X.leaveW hS hk (v := v) (fun q => hv (by rw [← Bd.returns]; exact q)) Bd.notSynchronized
  exact ⟨_, _, st fs hr, hrun, hended, _, _, rfl, ⟨hN, hΦ⟩, by rw [hh]; exact (show CHr Z EL s.vm h0 T.vm T.heap from hCR.trans (CHv.at X hZ' hEL hCR.1)), hE1, hE2, hE3, hE4.mono hc hs⟩
theorem own_wc (hx : plainFor y = true) (hEL : EW Z a0 EL) (walk : own_WW l Z EL y bytes mx rt rm as h0 sf Φ) : own_WC l Z EL y bytes mx rt rm as h0 sf Φ := own_wmet hx hEL walk
/-- a payer that may intern -/
abbrev own_PayW (l : Launch) (R : Room) (p : Program) (e : Env) (below : List Frame) (s : State) (vm0 : Vm) (args : Array Value) (y : MethodName) (len W : Nat) (as : Array Value) (h : Heap) (kc ks : Nat) (Z : State) (EL : List (String × Nat)) (Q : Option Value → Heap → List Loc → Prop) : Prop :=
  BackS l R p e below (s.setVm vm0) args y len W (fun A a => a = as ∧ A.U.heap = h ∧ A.cells + kc ≤ R.cells ∧ A.slots + ks ≤ R.slots) (fun A _ v B => ∃ L, Q v B.U.heap L ∧ B.locs = A.locs ++ L ∧ B.cells = A.cells + kc ∧ B.slots = A.slots + ks ∧ CHr Z EL vm0 h B.U.vm B.U.heap)
theorem own_wpay {len W : Nat} (hM : own_WC l Z EL y bytes mx rt rm as h sf Φ) (hZ : Z.Warmed39 vm0) (wc : (Cond.code y bytes mx rt).before a0 Z = true) (wz : (Cond.initialized y.cls).before a0 Z = true) (hf : rm.frames + 1 ≤ R.frames) (hl : W + (mx + 11) + rm.locals ≤ R.locals) (hEL : EW Z a0 EL) (H : CHv Z EL vm0 h) (hsf : ∀ x ∈ sf, x < h.size ∧ Safe Z EL vm0 h x) :
    own_PayW l R p e below s vm0 args y len W as h rm.cells rm.slots Z EL (own_Q Z Φ) :=
  BackS.of_freeW (bytes := bytes) (maxL := mx) (ret := rt) (E := fun _ first o t L k n => k = rm.cells ∧ n = rm.slots ∧ (∃ v, o = .returned v ∧ own_Q Z Φ v t.heap L) ∧ CHr Z EL first.vm first.heap t.vm t.heap) hM hf hl
    (fun m meth c A a Y hp => have hU : Z.Warmed39 A.U.vm := wtrans (s := s.setVm vm0) hZ Y.warmed
      ⟨by show (Cond.and _ .tt).before a A.U = true; rw [Cond.before_and, mv hU wc]; rfl, mv hU wc, mv hU wz, hp.2.2.1, hp.2.2.2⟩)
    (fun m meth c A a g mk Y hp => ⟨hp.1, wtrans (s := s.setVm vm0) hZ Y.warmed, hp.2.1, (CHv.at Y hZ hEL H).1, fun x hx => (CHv.at Y hZ hEL H).safe (hsf x hx).1 (hsf x hx).2⟩) (fun _ _ _ _ _ _ _ _ _ => trivial)
    (fun _ _ _ _ ⟨v, L, h1, h2, h3, h4⟩ => ⟨L, _, _, h4, rfl, rfl, ⟨v, h1, h2⟩, h3⟩)
    (fun m meth c A a g mk v t L k n Y hp _ _ ⟨e1, e2, ⟨v', e3, e4⟩, e5⟩ => by
      cases e3; subst e1 e2
      refine ⟨L, e4, rfl, rfl, rfl, (CHv.at Y hZ hEL H).trans ?_⟩
      rw [← hp.2.1]; exact e5)
variable {W kc ks k0 : Nat} {Q : Option Value → Heap → List Loc → Prop} {g : JFrame} {argsL rest : List Value} {b : Addr}
theorem own_wend {T' : State} (hZ : Z.Warmed39 vm0) (hown : vm0.findClass own = some m.cls) (hS : s.Since vm0 k0) (hk : k0 ≤ T.heap.size) (hS' : (s.setVm vm0).Since T'.vm T'.heap.size) (hg : T.heap.size ≤ T'.heap.size) : s.Since T'.vm T'.heap.size ∧ Z.Warmed39 T'.vm ∧ T'.vm.findClass own = some m.cls :=
  ⟨hS.trans hS' (Nat.le_trans hk hg), State.Warmed39.trans (t := s.setVm vm0) hZ hS'.1, by rw [hS'.1.alike.findClass]; exact hown⟩
theorem own_wstat (X : Stand p l e R (s.setVm vm0) m args below meth c T locs cells slots) (hx : p.tables.exec = Jvm.exec) (hml : c.maxLocals = mx) (hZ : Z.Warmed39 vm0) (hown : vm0.findClass own = some m.cls) (hS : s.Since vm0 k0) (hk : k0 ≤ h.size) {bytes' : ByteArray} {mx' : Nat} {rt' : Option FieldType}
    (w1 : (Cond.methodLink own index y).before a0 Z = true) (w2 : (Cond.static y).before a0 Z = true) (w3 : (Cond.initialized y.cls).before a0 Z = true) (w4 : (Cond.code y bytes' mx' rt').before a0 Z = true) (hy : y.cls ≠ "java/lang/invoke/MethodHandle" ∧ y.cls ≠ "java/lang/invoke/VarHandle")
    (hK : own_PayW l R p e below s vm0 args y 3 W argsL.toArray h kc ks Z EL Q) (cm : Steps p.tables e below S0 (T.setTop g)) (hg : g.method = m) (hsz : g.locals.size = mx)
    (hlen : ∀ sig, parseMethodDescriptor y.desc = some sig → argsL.length = sig.parameters.length) (hst : g.stack = argsL.reverse ++ rest) (hW : 2 * g.monitorRoom + (rest.map fun v => v.category).sum ≤ W) (hd : decode c.code g.pc = .ok (.invokestatic index, 3)) (eT : T.heap = h) (hc : cells + kc ≤ R.cells) (hs : slots + ks ≤ R.slots) :
    ∃ (v : Option Value) (T' : State) (L : List Loc), Stand p l e R (s.setVm T'.vm) m args below meth c T' (locs ++ L) (cells + kc) (slots + ks) ∧ s.Since T'.vm T'.heap.size ∧ Z.Warmed39 T'.vm ∧ T'.vm.findClass own = some m.cls ∧ CHr Z EL vm0 h T'.vm T'.heap ∧ Q v T'.heap L ∧ Steps p.tables e below S0 (T'.setTop { g with pc := g.pc + 3, stack := v.toList ++ rest }) := by
  obtain ⟨v, _, ⟨T', L', k', n'⟩, -, X', hS', hg', ⟨L, hQ, l1, l2, l3, l4⟩, st⟩ := callSS X hx (y := y) hown (mvT (s := s.setVm vm0) hZ w1) (mvT (s := s.setVm vm0) hZ w2) (mvT (s := s.setVm vm0) hZ w3) (mvT (s := s.setVm vm0) hZ w4) hy hK hg (by rw [hml]; exact hsz) (argsL := argsL) (rest := rest) hlen hst hW hd (fun _ _ => ⟨rfl, eT, hc, hs⟩)
  dsimp only [Pt.U, Pt.locs, Pt.cells, Pt.slots] at X' l1 l2 l3 l4 st hQ hS' hg'
  subst l1 l2 l3
  obtain ⟨q1, q2, q3⟩ := own_wend hZ hown hS (by rw [eT]; exact hk) hS' hg'
  exact ⟨v, T', L, X', q1, q2, q3, l4, hQ, cm.trans st⟩
theorem own_wspec (X : Stand p l e R (s.setVm vm0) m args below meth c T locs cells slots) (hx : p.tables.exec = Jvm.exec) (hml : c.maxLocals = mx) (hZ : Z.Warmed39 vm0) (hown : vm0.findClass own = some m.cls) (hS : s.Since vm0 k0) (hk : k0 ≤ h.size) {bytes' : ByteArray} {mx' : Nat} (hy1 : y.name = "<init>")
    (w1 : (Cond.methodLink own index y).before a0 Z = true) (w2 : (Cond.instanceMethod y).before a0 Z = true) (w4 : (Cond.code y bytes' mx' none).before a0 Z = true) (hy : y.cls ≠ "java/lang/invoke/MethodHandle" ∧ y.cls ≠ "java/lang/invoke/VarHandle")
    (hK : own_PayW l R p e below s vm0 args y 3 W (.ref b :: argsL).toArray h kc ks Z EL Q) (cm : Steps p.tables e below S0 (T.setTop g)) (hg : g.method = m) (hsz : g.locals.size = mx)
    (hlen : ∀ sig, parseMethodDescriptor y.desc = some sig → argsL.length = sig.parameters.length) (hst : g.stack = argsL.reverse ++ .ref b :: rest) (hW : 2 * g.monitorRoom + (rest.map fun v => v.category).sum ≤ W) (hd : decode c.code g.pc = .ok (.invokespecial index, 3)) (eT : T.heap = h) (hc : cells + kc ≤ R.cells) (hs : slots + ks ≤ R.slots) :
    ∃ (v : Option Value) (T' : State) (L : List Loc), Stand p l e R (s.setVm T'.vm) m args below meth c T' (locs ++ L) (cells + kc) (slots + ks) ∧ s.Since T'.vm T'.heap.size ∧ Z.Warmed39 T'.vm ∧ T'.vm.findClass own = some m.cls ∧ CHr Z EL vm0 h T'.vm T'.heap ∧ Q v T'.heap L ∧ Steps p.tables e below S0 (T'.setTop { g with pc := g.pc + 3, stack := v.toList ++ rest }) := by
  obtain ⟨v, _, ⟨T', L', k', n'⟩, -, X', hS', hg', ⟨L, hQ, l1, l2, l3, l4⟩, st⟩ := X.specialBackS hx (y := y) hy1 hown (mvT (s := s.setVm vm0) hZ w1) (mvT (s := s.setVm vm0) hZ w2) (mvT (s := s.setVm vm0) hZ w4) hy hK hg (by rw [hml]; exact hsz) cm (a := b) (argsL := argsL) (rest := rest) hlen hst hW hd (fun _ _ => ⟨rfl, eT, hc, hs⟩)
  dsimp only [Pt.U, Pt.locs, Pt.cells, Pt.slots] at X' l1 l2 l3 l4 st hQ hS' hg'
  subst l1 l2 l3
  obtain ⟨q1, q2, q3⟩ := own_wend hZ hown hS (by rw [eT]; exact hk) hS' hg'
  exact ⟨v, T', L, X', q1, q2, q3, l4, hQ, st⟩
theorem own_wvirt (X : Stand p l e R (s.setVm vm0) m args below meth c T locs cells slots) (hx : p.tables.exec = Jvm.exec) (hml : c.maxLocals = mx) (hZ : Z.Warmed39 vm0) (hown : vm0.findClass own = some m.cls) (hS : s.Since vm0 k0) (hk : k0 ≤ h.size)
    (w1 : (Cond.methodLink own index y).before a0 Z = true) (w2 : (Cond.declares y).before a0 Z = true) (w3 : (Cond.selects C y z).before a0 Z = true) (w4 : (Cond.instanceMethod z).before a0 Z = true) {Dn : String} (w5 : (Cond.selects Dn y y).before a0 Z = true) (hy : y.cls ≠ "java/lang/invoke/MethodHandle" ∧ y.cls ≠ "java/lang/invoke/VarHandle")
    (hK : own_PayW l R p e below s vm0 args z 3 W (.ref b :: argsL).toArray h kc ks Z EL Q) (E : Exa Z h b C) (cm : Steps p.tables e below S0 (T.setTop g)) (hg : g.method = m) (hsz : g.locals.size = mx)
    (hlen : ∀ sig, parseMethodDescriptor y.desc = some sig → argsL.length = sig.parameters.length) (hst : g.stack = argsL.reverse ++ .ref b :: rest) (hW : 2 * g.monitorRoom + (rest.map fun v => v.category).sum ≤ W) (hd : decode c.code g.pc = .ok (.invokevirtual index, 3)) (eT : T.heap = h) (hc : cells + kc ≤ R.cells) (hs : slots + ks ≤ R.slots) :
    ∃ (v : Option Value) (T' : State) (L : List Loc), Stand p l e R (s.setVm T'.vm) m args below meth c T' (locs ++ L) (cells + kc) (slots + ks) ∧ s.Since T'.vm T'.heap.size ∧ Z.Warmed39 T'.vm ∧ T'.vm.findClass own = some m.cls ∧ CHr Z EL vm0 h T'.vm T'.heap ∧ Q v T'.heap L ∧ Steps p.tables e below S0 (T'.setTop { g with pc := g.pc + 3, stack := v.toList ++ rest }) := by
  obtain ⟨cq, kq, qa, qb, qc⟩ := isOf (s := s.setVm vm0) hZ eT E
  obtain ⟨v, _, ⟨T', L', k', n'⟩, -, X', hS', hg', ⟨L, hQ, l1, l2, l3, l4⟩, st⟩ := X.virtualBackS hx (y := y) (z := z) hown (mvT (s := s.setVm vm0) hZ w1) (mvT (s := s.setVm vm0) hZ w2) (notFace_of_selects (args := #[]) (mvT (s := s.setVm vm0) hZ w5)) (mvT (s := s.setVm vm0) hZ w3) (mvT (s := s.setVm vm0) hZ w4) hy hK qa qc hg (by rw [hml]; exact hsz) cm (argsL := argsL) (rest := rest) hlen hst hW hd (fun _ _ => ⟨rfl, eT, hc, hs⟩)
  dsimp only [Pt.U, Pt.locs, Pt.cells, Pt.slots] at X' l1 l2 l3 l4 st hQ hS' hg'
  subst l1 l2 l3
  obtain ⟨q1, q2, q3⟩ := own_wend hZ hown hS (by rw [eT]; exact hk) hS' hg'
  exact ⟨v, T', L, X', q1, q2, q3, l4, hQ, st⟩
end OwnWide
end Jvm.Pilot.@@N@@
/- laws to paste: Road.backV, Road.lenW, Road.eqW, Road.codOf (cut by pick.py; bodies as the Statement names them) -/
namespace Jvm.Pilot.@@N@@
namespace StrChars
open Jvm Sem ClassFile Op Lib Jvm.Stand Jvm.Free.XT Jvm.Free.ALB Jvm.Free.JM Jvm.Free
open Jvm.Lib.Cold (StaticIs)
/-- a char array whose places are chars -/
def Ch (a : Addr) (A : Cell) (U : State) : Prop := Arr .char a A U ∧ Typed .char A
theorem Ch.mv {a : Addr} {A : Cell} {U U' : State} (h : Ch a A U) (hal : U.vm.Alike U'.vm) (hh : U'.heap = U.heap) : Ch a A U' := ⟨h.1.mv hal hh, h.2⟩
theorem Ch.keep {a : Addr} {A : Cell} {U U' : State} (h : Ch a A U) (hal : U.vm.Alike U'.vm) (hk : U'.heap[a]? = some A) : Ch a A U' := ⟨h.1.keep hal hk, h.2⟩
/-- what place i of a char[]'s cell holds -/
def cv (A : Cell) (i : Nat) : Int32 := match A.slots[i]? with | some (.int x) => x | _ => 0
theorem Ch.get {a : Addr} {A : Cell} {U : State} (h : Ch a A U) {i : Nat} (hi : i < A.slots.size) : A.slots[i]? = some (.int (cv A i)) := by
  have e := Array.getElem?_eq_getElem hi
  have f := h.2 i _ e
  unfold cv; rw [e]
  generalize A.slots[i] = v at f
  cases v <;> simp [fits] at f ⊢
/-- the byte that i2b leaves of a char -/
def lo8 (x : Int32) : Int32 := x.toInt8.toInt32
theorem fits_lo8 (y : Int32) : fits .byte (.int (lo8 y)) = true := by
  have h1 := y.toInt8.le_toInt
  have h2 := y.toInt8.toInt_lt
  simp only [lo8, fits, Bool.and_eq_true, decide_eq_true_eq, Int32.le_iff_toInt_le, Int8.toInt_toInt32, show (-128 : Int32).toInt = -128 from by decide, show (127 : Int32).toInt = 127 from by decide]
  omega
/-- A' is A but that each place j of lo .. hi - 1 holds f j -/
def Laid (A A' : Cell) (lo hi : Nat) (f : Nat → Value) : Prop := A'.cls = A.cls ∧ A'.vm = A.vm ∧ A'.slots.size = A.slots.size ∧ ∀ i, A'.slots[i]? = if lo ≤ i ∧ i < hi then some (f i) else A.slots[i]?
theorem Laid.zero (A : Cell) (lo : Nat) (f : Nat → Value) : Laid A A lo (lo + 0) f := ⟨rfl, rfl, rfl, fun i => by rw [if_neg (by omega)]⟩
theorem Laid.step {A Ak : Cell} {lo k : Nat} {f : Nat → Value} {v : Value} (h : Laid A Ak lo k f) (hlo : lo ≤ k) (hk : k < Ak.slots.size) (hv : v = f k) : Laid A (Ak.setSlot k v) lo (k + 1) f := by
  refine ⟨h.1, h.2.1, by simpa [Cell.setSlot] using h.2.2.1, fun i => ?_⟩
  by_cases e : k = i
  · subst e; rw [Cell.slots_setSlot_self v hk, if_pos (by omega), hv]
  · rw [Cell.slots_setSlot_ne v e, h.2.2.2 i]
    by_cases q : lo ≤ i ∧ i < k
    · rw [if_pos q, if_pos (by omega)]
    · rw [if_neg q, if_neg (by omega)]
def U16 : String := "java/lang/StringUTF16"
namespace Cmp5
def yN : MethodName := ⟨"java/lang/StringUTF16", "compress", "([CI[BII)I"⟩
abbrev yB : ByteArray := jdk_52_method_21_code
theorem d0 : decode yB 0 = .ok (.iconst 0, 1) := by decide +kernel
theorem d1 : decode yB 1 = .ok (.istore 5, 2) := by decide +kernel
theorem d3 : decode yB 3 = .ok (.iload 5, 2) := by decide +kernel
theorem d5 : decode yB 5 = .ok (.iload 4, 2) := by decide +kernel
theorem d7 : decode yB 7 = .ok (.if_icmp (.ge) 37, 3) := by decide +kernel
theorem d10 : decode yB 10 = .ok (.aload_n 0, 1) := by decide +kernel
theorem d11 : decode yB 11 = .ok (.iload_n 1, 1) := by decide +kernel
theorem d12 : decode yB 12 = .ok (.caload, 1) := by decide +kernel
theorem d13 : decode yB 13 = .ok (.istore 6, 2) := by decide +kernel
theorem d15 : decode yB 15 = .ok (.iload 6, 2) := by decide +kernel
theorem d17 : decode yB 17 = .ok (.sipush 255, 3) := by decide +kernel
theorem d20 : decode yB 20 = .ok (.if_icmp (.le) 6, 3) := by decide +kernel
theorem d26 : decode yB 26 = .ok (.aload_n 2, 1) := by decide +kernel
theorem d27 : decode yB 27 = .ok (.iload_n 3, 1) := by decide +kernel
theorem d28 : decode yB 28 = .ok (.iload 6, 2) := by decide +kernel
theorem d30 : decode yB 30 = .ok (.i2b, 1) := by decide +kernel
theorem d31 : decode yB 31 = .ok (.bastore, 1) := by decide +kernel
theorem d32 : decode yB 32 = .ok (.iinc 1 1, 3) := by decide +kernel
theorem d35 : decode yB 35 = .ok (.iinc 3 1, 3) := by decide +kernel
theorem d38 : decode yB 38 = .ok (.iinc 5 1, 3) := by decide +kernel
theorem d41 : decode yB 41 = .ok (.goto (-38), 3) := by decide +kernel
theorem d44 : decode yB 44 = .ok (.iload 4, 2) := by decide +kernel
theorem d46 : decode yB 46 = .ok (.ireturn, 1) := by decide +kernel
def site : List Cond := []
def tab : Cond := tabOf yN yB 7 (some .int) site
def P (b : Addr) (A : Cell) (d : Addr) (B : Cell) (o q len : Nat) (args : Array Value) (s : State) : Prop := args = #[.ref b, .int (Int32.ofNat o), .ref d, .int (Int32.ofNat q), .int (Int32.ofNat len)] ∧ Ch b A s ∧ Arr .byte d B s ∧ b ≠ d ∧ o + len ≤ A.slots.size ∧ q + len ≤ B.slots.size ∧ ∀ i, i < len → ¬ 255 < cv A (o + i)
def E (b : Addr) (A : Cell) (d : Addr) (B : Cell) (o q len : Nat) (r : Option Value) (s u : State) : Prop := r = some (.int (Int32.ofNat len)) ∧ ∃ B', Put d B' s u ∧ Laid B B' q (q + len) (fun j => Value.int (lo8 (cv A (o + (j - q)))))
/-- no char of the range above 255: len; the places written hold each char's low byte -/
theorem law (l : Launch) (b : Addr) (A : Cell) (d : Addr) (B : Cell) (o q len : Nat) : Law l yN 5 5 0 0 yB 7 (some .int) site (P b A d B o q len) (E b A d B o q len) (copyLocs d q len) 0 0 := by
  refine Law.of_walk (plainFor_of_name (by decide +kernel)) (by decide +kernel) (by decide +kernel) (by decide) (fun _ _ h => by rw [h.1]; rfl) (fun _ U U' hal hh h => ⟨h.1, h.2.1.mv hal hh, h.2.2.1.mv hal hh, h.2.2.2⟩) (fun r U U' V V' h1 hal h2 h => ⟨h.1, h.2.elim fun B' q => ⟨B', q.1.mv h1 h2, q.2⟩⟩) ?_
  intro p e s m args below meth c s₁ X0 hexec hbytes hml hret hlk hnm hown hh0 W hP
  obtain ⟨rfl, hA, hB, hne, l1, l2, hp⟩ := hP
  have c1 : Steps p.tables e below (s₁.setTop (entryFrame m #[.ref b, .int (Int32.ofNat o), .ref d, .int (Int32.ofNat q), .int (Int32.ofNat len)] 7)) (s₁.setTop (mkF m 0 #[.val (.ref b), .val (.int (Int32.ofNat o)), .val (.ref d), .val (.int (Int32.ofNat q)), .val (.int (Int32.ofNat len)), .unset, .unset] [])) := entry rfl
  have hA0 := hA.1.mv X0.warmed.alike hh0
  have hB0 := hB.mv X0.warmed.alike hh0
  have a31 := hA.1.2.2.2
  have c2 : Steps p.tables e below (s₁.setTop (entryFrame m #[.ref b, .int (Int32.ofNat o), .ref d, .int (Int32.ofNat q), .int (Int32.ofNat len)] 7)) (s₁.setTop (mkF m 3 #[.val (.ref b), .val (.int (Int32.ofNat o)), .val (.ref d), .val (.int (Int32.ofNat q)), .val (.int (Int32.ofNat len)), .val (.int 0), .unset] [])) := c1.trans (by
    refine iconstV X0.here hexec rfl 0 (hb hbytes d0) (by decide) ?_
    refine XS.istore X0.here hexec rfl (hb hbytes d1) rfl rfl ?_
    exact Steps.refl _)
  have loop : ∀ (r i : Nat), i + r = len → ∀ (z : Slot), (z = .unset ∨ ∃ w, z = .val w ∧ w.category = 1) → ∀ (Tl : State) (Bk : Cell), Stand p l e { frames := 0, locals := 0, cells := 0, slots := 0 } s m #[.ref b, .int (Int32.ofNat o), .ref d, .int (Int32.ofNat q), .int (Int32.ofNat len)] below meth c Tl ([] ++ copyLocs d q i) 0 0 → Put d Bk s₁ Tl → Laid B Bk q (q + i) (fun j => Value.int (lo8 (cv A (o + (j - q))))) →
      Steps p.tables e below (s₁.setTop (entryFrame m #[.ref b, .int (Int32.ofNat o), .ref d, .int (Int32.ofNat q), .int (Int32.ofNat len)] 7)) (Tl.setTop (mkF m 3 #[.val (.ref b), .val (.int (Int32.ofNat (o + i))), .val (.ref d), .val (.int (Int32.ofNat (q + i))), .val (.int (Int32.ofNat len)), .val (.int (Int32.ofNat i)), z] [])) → ∃ (T' : State) (B' : Cell) (z' : Slot), Stand p l e { frames := 0, locals := 0, cells := 0, slots := 0 } s m #[.ref b, .int (Int32.ofNat o), .ref d, .int (Int32.ofNat q), .int (Int32.ofNat len)] below meth c T' ([] ++ copyLocs d q len) 0 0 ∧ Put d B' s₁ T' ∧ Laid B B' q (q + len) (fun j => Value.int (lo8 (cv A (o + (j - q))))) ∧
      Steps p.tables e below (s₁.setTop (entryFrame m #[.ref b, .int (Int32.ofNat o), .ref d, .int (Int32.ofNat q), .int (Int32.ofNat len)] 7)) (T'.setTop (mkF m 3 #[.val (.ref b), .val (.int (Int32.ofNat (o + len))), .val (.ref d), .val (.int (Int32.ofNat (q + len))), .val (.int (Int32.ofNat len)), .val (.int (Int32.ofNat len)), z'] [])) := by
    intro r
    induction r with
    | zero =>
      intro i hi z hz Tl Bk Xl pl fl cl
      have hil : i = len := by omega
      rw [hil] at Xl fl cl
      exact ⟨Tl, Bk, z, Xl, pl, fl, cl⟩
    | succ r ih =>
      intro i hi z hz Tl Bk Xl pl fl cl
      have all := X0.warmed.alike.symm.trans Xl.warmed.alike
      have hAl := hA0.keep all (pl.other hne hA0.1)
      have hBk := hB0.like all pl.1 fl.1 fl.2.1 fl.2.2.1
      have hlt : q + i < Bk.slots.size := by rw [fl.2.2.1]; omega
      have c3 : Steps p.tables e below (s₁.setTop (entryFrame m #[.ref b, .int (Int32.ofNat o), .ref d, .int (Int32.ofNat q), .int (Int32.ofNat len)] 7)) (Tl.setTop (mkF m 12 #[.val (.ref b), .val (.int (Int32.ofNat (o + i))), .val (.ref d), .val (.int (Int32.ofNat (q + i))), .val (.int (Int32.ofNat len)), .val (.int (Int32.ofNat i)), z] [.int (Int32.ofNat (o + i)), .ref b])) := cl.trans (by
        refine XS.iload Xl.here hexec rfl (hb hbytes d3) rfl ?_
        refine XS.iload Xl.here hexec rfl (hb hbytes d5) rfl ?_
        refine XS.icmpNo Xl.here hexec rfl (hb hbytes d7) rfl (ii_ge_f (lt32 (by omega) (by omega))) ?_
        refine XS.aloadN Xl.here hexec rfl (hb hbytes d10) rfl rfl ?_
        refine XS.iloadN Xl.here hexec rfl (hb hbytes d11) rfl ?_
        exact Steps.refl _)
      have c4 : Steps p.tables e below (s₁.setTop (entryFrame m #[.ref b, .int (Int32.ofNat o), .ref d, .int (Int32.ofNat q), .int (Int32.ofNat len)] 7)) (Tl.setTop (mkF m 13 #[.val (.ref b), .val (.int (Int32.ofNat (o + i))), .val (.ref d), .val (.int (Int32.ofNat (q + i))), .val (.int (Int32.ofNat len)), .val (.int (Int32.ofNat i)), z] [.int (cv A (o + i))])) := c3.trans (by
        refine Xl.aget hexec hAl rfl (hA.get (i := o + i) (by omega)) rfl rfl (hb hbytes d12) ?_
        exact Steps.refl _)
      have c5 : Steps p.tables e below (s₁.setTop (entryFrame m #[.ref b, .int (Int32.ofNat o), .ref d, .int (Int32.ofNat q), .int (Int32.ofNat len)] 7)) (Tl.setTop (mkF m 15 #[.val (.ref b), .val (.int (Int32.ofNat (o + i))), .val (.ref d), .val (.int (Int32.ofNat (q + i))), .val (.int (Int32.ofNat len)), .val (.int (Int32.ofNat i)), .val (.int (cv A (o + i)))] [])) := c4.trans (by
        refine XS.istoreS Xl.here hexec rfl (hb hbytes d13) rfl rfl hz ?_
        exact Steps.refl _)
      have c6 : Steps p.tables e below (s₁.setTop (entryFrame m #[.ref b, .int (Int32.ofNat o), .ref d, .int (Int32.ofNat q), .int (Int32.ofNat len)] 7)) (Tl.setTop (mkF m 31 #[.val (.ref b), .val (.int (Int32.ofNat (o + i))), .val (.ref d), .val (.int (Int32.ofNat (q + i))), .val (.int (Int32.ofNat len)), .val (.int (Int32.ofNat i)), .val (.int (cv A (o + i)))] [.int (lo8 (cv A (o + i))), .int (Int32.ofNat (q + i)), .ref d])) := c5.trans (by
        refine XS.iload Xl.here hexec rfl (hb hbytes d15) rfl ?_
        refine sipushV Xl.here hexec rfl 255 (hb hbytes d17) (by decide) ?_
        refine XS.icmpYes Xl.here hexec rfl (pc0 := 20) rfl (hb hbytes d20) rfl (ii_le_t (hp i (by omega))) (by decide) rfl ?_
        refine XS.aloadN Xl.here hexec rfl (hb hbytes d26) rfl rfl ?_
        refine XS.iloadN Xl.here hexec rfl (hb hbytes d27) rfl ?_
        refine XS.iload Xl.here hexec rfl (hb hbytes d28) rfl ?_
        refine i2b Xl.here hexec rfl (hb hbytes d30) rfl ?_
        exact Steps.refl _)
      obtain ⟨T7, X7, p7, st7⟩ := Xl.aput hexec hBk rfl hlt rfl (fits_lo8 (cv A (o + i))) (g := (mkF m 31 #[.val (.ref b), .val (.int (Int32.ofNat (o + i))), .val (.ref d), .val (.int (Int32.ofNat (q + i))), .val (.int (Int32.ofNat len)), .val (.int (Int32.ofNat i)), .val (.int (cv A (o + i)))] [.int (lo8 (cv A (o + i))), .int (Int32.ofNat (q + i)), .ref d])) rfl (rest := []) rfl (hb hbytes d31)
      have c8 : Steps p.tables e below (s₁.setTop (entryFrame m #[.ref b, .int (Int32.ofNat o), .ref d, .int (Int32.ofNat q), .int (Int32.ofNat len)] 7)) (T7.setTop (mkF m 32 #[.val (.ref b), .val (.int (Int32.ofNat (o + i))), .val (.ref d), .val (.int (Int32.ofNat (q + i))), .val (.int (Int32.ofNat len)), .val (.int (Int32.ofNat i)), .val (.int (cv A (o + i)))] [])) := c6.trans (st7 _ (Steps.refl _))
      have c9 : Steps p.tables e below (s₁.setTop (entryFrame m #[.ref b, .int (Int32.ofNat o), .ref d, .int (Int32.ofNat q), .int (Int32.ofNat len)] 7)) (T7.setTop (mkF m 3 #[.val (.ref b), .val (.int (Int32.ofNat (o + i) + 1)), .val (.ref d), .val (.int (Int32.ofNat (q + i) + 1)), .val (.int (Int32.ofNat len)), .val (.int (Int32.ofNat i + 1)), .val (.int (cv A (o + i)))] [])) := c8.trans (by
        refine iincV X7.here hexec rfl 1 (hb hbytes d32) (by decide) rfl rfl ?_
        refine iincV X7.here hexec rfl 1 (hb hbytes d35) (by decide) rfl rfl ?_
        refine iincV X7.here hexec rfl 1 (hb hbytes d38) (by decide) rfl rfl ?_
        refine XS.goto X7.here hexec rfl (pc0 := 41) rfl (hb hbytes d41) (by decide) rfl ?_
        exact Steps.refl _)
      have c10 : Steps p.tables e below (s₁.setTop (entryFrame m #[.ref b, .int (Int32.ofNat o), .ref d, .int (Int32.ofNat q), .int (Int32.ofNat len)] 7)) (T7.setTop (mkF m 3 #[.val (.ref b), .val (.int (Int32.ofNat (o + (i + 1)))), .val (.ref d), .val (.int (Int32.ofNat (q + (i + 1)))), .val (.int (Int32.ofNat len)), .val (.int (Int32.ofNat (i + 1))), .val (.int (cv A (o + i)))] [])) := by
        have := c9
        rw [succ32, succ32, succ32] at this
        exact this
      exact ih (i + 1) (by omega) _ (Or.inr ⟨_, rfl, rfl⟩) T7 _ (by rw [copyLocs_step, ← List.append_assoc]; exact X7) (pl.trans p7) (fl.step (by omega) hlt (by simp)) c10
  obtain ⟨T9, B9, z9, X9, p9, f9, g9⟩ := loop len 0 (by omega) .unset (Or.inl rfl) s₁ B (by simpa [copyLocs] using X0) ⟨hB0.1, fun _ _ => rfl, rfl⟩ (Laid.zero _ _ _) c2
  have c11 : Steps p.tables e below (s₁.setTop (entryFrame m #[.ref b, .int (Int32.ofNat o), .ref d, .int (Int32.ofNat q), .int (Int32.ofNat len)] 7)) (T9.setTop (mkF m 46 #[.val (.ref b), .val (.int (Int32.ofNat (o + len))), .val (.ref d), .val (.int (Int32.ofNat (q + len))), .val (.int (Int32.ofNat len)), .val (.int (Int32.ofNat len)), z9] [.int (Int32.ofNat len)])) := g9.trans (by
    refine XS.iload X9.here hexec rfl (hb hbytes d3) rfl ?_
    refine XS.iload X9.here hexec rfl (hb hbytes d5) rfl ?_
    refine XS.icmpYes X9.here hexec rfl (pc0 := 7) rfl (hb hbytes d7) rfl (ii_ge_t (nlt32 (by omega) (Nat.le_refl _))) (by decide) rfl ?_
    refine XS.iload X9.here hexec rfl (hb hbytes d44) rfl ?_
    exact Steps.refl _)
  exact ⟨T9, some (.int (Int32.ofNat len)), _, _, _, X9, by simp, rfl, rfl, (fun h => by cases h), ⟨rfl, B9, p9.from hh0, f9⟩, fun fs hl => c11.trans (X9.ireturnOut hexec hret rfl (Or.inl rfl) (hb hbytes d46) hl)⟩
end Cmp5
namespace Cmp3
def yN : MethodName := ⟨"java/lang/StringUTF16", "compress", "([CII)[B"⟩
abbrev yB : ByteArray := jdk_52_method_16_code
theorem d0 : decode yB 0 = .ok (.iload_n 2, 1) := by decide +kernel
theorem d1 : decode yB 1 = .ok (.newarray .byte, 2) := by decide +kernel
theorem d3 : decode yB 3 = .ok (.astore_n 3, 1) := by decide +kernel
theorem d4 : decode yB 4 = .ok (.aload_n 0, 1) := by decide +kernel
theorem d5 : decode yB 5 = .ok (.iload_n 1, 1) := by decide +kernel
theorem d6 : decode yB 6 = .ok (.aload_n 3, 1) := by decide +kernel
theorem d7 : decode yB 7 = .ok (.iconst 0, 1) := by decide +kernel
theorem d8 : decode yB 8 = .ok (.iload_n 2, 1) := by decide +kernel
theorem d9 : decode yB 9 = .ok (.invokestatic 115, 3) := by decide +kernel
theorem d12 : decode yB 12 = .ok (.istore 4, 2) := by decide +kernel
theorem d14 : decode yB 14 = .ok (.iload 4, 2) := by decide +kernel
theorem d16 : decode yB 16 = .ok (.iload_n 2, 1) := by decide +kernel
theorem d17 : decode yB 17 = .ok (.if_icmp (.eq) 40, 3) := by decide +kernel
theorem d57 : decode yB 57 = .ok (.aload_n 3, 1) := by decide +kernel
theorem d58 : decode yB 58 = .ok (.areturn, 1) := by decide +kernel
def site : List Cond := [.arrayClass .byte, Cmp5.tab] ++ staticW U16 115 Cmp5.yN
def tab : Cond := tabOf yN yB 6 (some (.array .byte)) site
def P (b : Addr) (A : Cell) (o len : Nat) (args : Array Value) (s : State) : Prop := args = #[.ref b, .int (Int32.ofNat o), .int (Int32.ofNat len)] ∧ Ch b A s ∧ o + len ≤ A.slots.size ∧ len ≤ 536870912 ∧ ∀ i, i < len → ¬ 255 < cv A (o + i)
def E (b : Addr) (A : Cell) (o len : Nat) (r : Option Value) (s u : State) : Prop := NewArr .byte "[B" len (fun j => .int (lo8 (cv A (o + j)))) r s u ∧ u.heap.size = s.heap.size + 1
/-- no char of the range above 255: a new byte[] of their low bytes -/
theorem law (l : Launch) (b : Addr) (A : Cell) (o len : Nat) : Law l yN 3 3 1 18 yB 6 (some (.array .byte)) site (P b A o len) (E b A o len) [] 1 len := by
  refine Law.of_walk (plainFor_of_name (by decide +kernel)) (by decide +kernel) (by decide +kernel) (by decide) (fun _ _ h => by rw [h.1]; rfl) (fun _ U U' hal hh h => ⟨h.1, h.2.1.mv hal hh, h.2.2⟩) (fun r U U' V V' h1 hal h2 h => ⟨NewArr.mv r U U' V V' h1 hal h2 h.1, by rw [h1, h2]; exact h.2⟩) ?_
  intro p e s m args below meth c s₁ X0 hexec hbytes hml hret hlk hnm hown hh0 W hP
  obtain ⟨rfl, hA, l1, l2, hp⟩ := hP
  have a31 := hA.1.2.2.2
  have c1 : Steps p.tables e below (s₁.setTop (entryFrame m #[.ref b, .int (Int32.ofNat o), .int (Int32.ofNat len)] 6)) (s₁.setTop (mkF m 0 #[.val (.ref b), .val (.int (Int32.ofNat o)), .val (.int (Int32.ofNat len)), .unset, .unset, .unset] [])) := entry rfl
  have c2 : Steps p.tables e below (s₁.setTop (entryFrame m #[.ref b, .int (Int32.ofNat o), .int (Int32.ofNat len)] 6)) (s₁.setTop (mkF m 1 #[.val (.ref b), .val (.int (Int32.ofNat o)), .val (.int (Int32.ofNat len)), .unset, .unset, .unset] [.int (Int32.ofNat len)])) := c1.trans (by
    refine XS.iloadN X0.here hexec rfl (hb hbytes d0) rfl ?_
    exact Steps.refl _)
  obtain ⟨T3, B3, X3, ba3, bs3, bv3, bh3, bf3, st3⟩ := X0.anew hexec (atype := .byte) (wk W (.arrayClass .byte)) rfl (by show len * 1 ≤ _; omega) (by omega) (g := (mkF m 1 #[.val (.ref b), .val (.int (Int32.ofNat o)), .val (.int (Int32.ofNat len)), .unset, .unset, .unset] [.int (Int32.ofNat len)])) rfl (hb hbytes d1) (rest := []) rfl (Nat.le_refl _) (by show 0 + len ≤ len; omega)
  rw [hh0] at ba3 st3
  have kp3 : XT.Kept s T3 := (XT.Kept.of_eq hh0).push bh3
  have hA3 := hA.keep X3.warmed.alike (kp3 _ _ hA.1.1)
  have hne : b ≠ s.heap.size := hA.1.ne
  have c4 : Steps p.tables e below (s₁.setTop (entryFrame m #[.ref b, .int (Int32.ofNat o), .int (Int32.ofNat len)] 6)) (T3.setTop (mkF m 3 #[.val (.ref b), .val (.int (Int32.ofNat o)), .val (.int (Int32.ofNat len)), .unset, .unset, .unset] [.ref s.heap.size])) := c2.trans (st3 _ (Steps.refl _))
  have c5 : Steps p.tables e below (s₁.setTop (entryFrame m #[.ref b, .int (Int32.ofNat o), .int (Int32.ofNat len)] 6)) (T3.setTop (mkF m 9 #[.val (.ref b), .val (.int (Int32.ofNat o)), .val (.int (Int32.ofNat len)), .val (.ref s.heap.size), .unset, .unset] [.int (Int32.ofNat len), .int 0, .ref s.heap.size, .int (Int32.ofNat o), .ref b])) := c4.trans (by
    refine XS.astoreN X3.here hexec rfl (hb hbytes d3) rfl rfl rfl ?_
    refine XS.aloadN X3.here hexec rfl (hb hbytes d4) rfl rfl ?_
    refine XS.iloadN X3.here hexec rfl (hb hbytes d5) rfl ?_
    refine XS.aloadN X3.here hexec rfl (hb hbytes d6) rfl rfl ?_
    refine iconstV X3.here hexec rfl 0 (hb hbytes d7) (by decide) ?_
    refine XS.iloadN X3.here hexec rfl (hb hbytes d8) rfl ?_
    exact Steps.refl _)
  obtain ⟨v6, T6, X6, E6, g6⟩ := X3.callS hexec (Cmp5.law l b A s.heap.size B3 o 0 len) hown (wks W (staticW U16 115 Cmp5.yN)) (wk W Cmp5.tab) (W := 0) (Nat.le_of_ble_eq_true rfl) (Nat.le_of_ble_eq_true rfl) (Nat.le_refl _) (by show 0 + len + 0 ≤ len; omega) (g := (mkF m 9 #[.val (.ref b), .val (.int (Int32.ofNat o)), .val (.int (Int32.ofNat len)), .val (.ref s.heap.size), .unset, .unset] [.int (Int32.ofNat len), .int (Int32.ofNat 0), .ref s.heap.size, .int (Int32.ofNat o), .ref b])) rfl (by rw [hml]; rfl) c5 (argsL := [.ref b, .int (Int32.ofNat o), .ref s.heap.size, .int (Int32.ofNat 0), .int (Int32.ofNat len)]) (rest := []) rfl rfl (by show 2 * 0 + 0 ≤ _; decide) (hb hbytes d9) (⟨rfl, hA3, ba3, hne, l1, by rw [bs3]; simp, hp⟩)
  obtain ⟨rfl, B6, p6, f6⟩ := E6
  have c7 : Steps p.tables e below (s₁.setTop (entryFrame m #[.ref b, .int (Int32.ofNat o), .int (Int32.ofNat len)] 6)) (T6.setTop (mkF m 12 #[.val (.ref b), .val (.int (Int32.ofNat o)), .val (.int (Int32.ofNat len)), .val (.ref s.heap.size), .unset, .unset] [.int (Int32.ofNat len)])) := g6
  have c8 : Steps p.tables e below (s₁.setTop (entryFrame m #[.ref b, .int (Int32.ofNat o), .int (Int32.ofNat len)] 6)) (T6.setTop (mkF m 58 #[.val (.ref b), .val (.int (Int32.ofNat o)), .val (.int (Int32.ofNat len)), .val (.ref s.heap.size), .val (.int (Int32.ofNat len)), .unset] [.ref s.heap.size])) := c7.trans (by
    refine XS.istore X6.here hexec rfl (hb hbytes d12) rfl rfl ?_
    refine XS.iload X6.here hexec rfl (hb hbytes d14) rfl ?_
    refine XS.iloadN X6.here hexec rfl (hb hbytes d16) rfl ?_
    refine XS.icmpYes X6.here hexec rfl (pc0 := 17) rfl (hb hbytes d17) rfl (ii_eq_t rfl) (by decide) rfl ?_
    refine XS.aloadN X6.here hexec rfl (hb hbytes d57) rfl rfl ?_
    exact Steps.refl _)
  have X8 := X6.wide (L' := []) (cells' := 1) (slots' := len) (fun x hx hlt => by
    simp only [List.nil_append, copyLocs, List.mem_map, List.mem_range] at hx
    obtain ⟨i, -, rfl⟩ := hx
    exact absurd hlt (Nat.lt_irrefl _)) (Nat.le_refl _) (by omega)
  exact ⟨T6, some (.ref s.heap.size), _, _, _, X8, rfl, rfl, rfl, (fun h => by cases h), ⟨⟨rfl, B6, ba3.like (X3.warmed.alike.symm.trans X6.warmed.alike) p6.1 f6.1 f6.2.1 f6.2.2.1, f6.2.1.trans bv3, by rw [X6.warmed.alike.findClass, f6.1]; exact bf3, by rw [f6.2.2.1, bs3]; simp, fun j hj => by rw [f6.2.2.2 j, if_pos (by omega)]; rfl, kp3.put p6 (Nat.le_refl _)⟩, by rw [p6.2.2, bh3, hh0]; simp⟩, fun fs hl => c8.trans (X8.areturnOut hexec rfl hret rfl (hb hbytes d58) hl)⟩
end Cmp3
namespace CodL
def yN : MethodName := ⟨"java/lang/StringUTF16", "coderFromArrayLen", "([BI)B"⟩
abbrev yB : ByteArray := jdk_52_method_15_code
theorem d0 : decode yB 0 = .ok (.iload_n 1, 1) := by decide +kernel
theorem d1 : decode yB 1 = .ok (.aload_n 0, 1) := by decide +kernel
theorem d2 : decode yB 2 = .ok (.arraylength, 1) := by decide +kernel
theorem d3 : decode yB 3 = .ok (.isub, 1) := by decide +kernel
theorem d4 : decode yB 4 = .ok (.bipush 31, 2) := by decide +kernel
theorem d6 : decode yB 6 = .ok (.iushr, 1) := by decide +kernel
theorem d7 : decode yB 7 = .ok (.i2b, 1) := by decide +kernel
theorem d8 : decode yB 8 = .ok (.ireturn, 1) := by decide +kernel
def site : List Cond := []
def tab : Cond := tabOf yN yB 2 (some .byte) site
def P (d : Addr) (B : Cell) (args : Array Value) (s : State) : Prop := args = #[.ref d, .int (Int32.ofNat B.slots.size)] ∧ Arr .byte d B s
def E (r : Option Value) (s u : State) : Prop := XT.PureE (some (.int 0)) r s u
/-- an array as long as the number of chars: LATIN1 -/
theorem law (l : Launch) (d : Addr) (B : Cell) : Law l yN 2 2 0 0 yB 2 (some .byte) site (P d B) E [] 0 0 := by
  refine Law.of_walk (plainFor_of_name (by decide +kernel)) (by decide +kernel) (by decide +kernel) (by decide) (fun _ _ h => by rw [h.1]; rfl) (fun _ U U' hal hh h => ⟨h.1, h.2.mv hal hh⟩) (fun r U U' V V' h1 hal h2 h => XT.PureE.mv r U U' V V' h1 hal h2 h) ?_
  intro p e s m args below meth c s₁ X0 hexec hbytes hml hret hlk hnm hown hh0 W hP
  obtain ⟨rfl, hB⟩ := hP
  have hB0 := hB.mv X0.warmed.alike hh0
  have c1 : Steps p.tables e below (s₁.setTop (entryFrame m #[.ref d, .int (Int32.ofNat B.slots.size)] 2)) (s₁.setTop (mkF m 0 #[.val (.ref d), .val (.int (Int32.ofNat B.slots.size))] [])) := entry rfl
  have c2 : Steps p.tables e below (s₁.setTop (entryFrame m #[.ref d, .int (Int32.ofNat B.slots.size)] 2)) (s₁.setTop (mkF m 2 #[.val (.ref d), .val (.int (Int32.ofNat B.slots.size))] [.ref d, .int (Int32.ofNat B.slots.size)])) := c1.trans (by
    refine XS.iloadN X0.here hexec rfl (hb hbytes d0) rfl ?_
    refine XS.aloadN X0.here hexec rfl (hb hbytes d1) rfl rfl ?_
    exact Steps.refl _)
  have c3 : Steps p.tables e below (s₁.setTop (entryFrame m #[.ref d, .int (Int32.ofNat B.slots.size)] 2)) (s₁.setTop (mkF m 8 #[.val (.ref d), .val (.int (Int32.ofNat B.slots.size))] [.int (lo8 (ushr (Int32.ofNat B.slots.size - Int32.ofNat B.slots.size) 31))])) := c2.trans (by
    refine X0.alen hexec hB0 rfl rfl (hb hbytes d2) ?_
    refine XS.isub X0.here hexec rfl (hb hbytes d3) rfl ?_
    refine bipushV X0.here hexec rfl 31 (hb hbytes d4) (by decide) ?_
    refine iushr X0.here hexec rfl (hb hbytes d6) rfl ?_
    refine i2b X0.here hexec rfl (hb hbytes d7) rfl ?_
    exact Steps.refl _)
  have e0 : lo8 (ushr (Int32.ofNat B.slots.size - Int32.ofNat B.slots.size) 31) = 0 := by rw [Int32.sub_self]; decide
  rw [e0] at c3
  exact ⟨s₁, some (.int 0), _, _, _, X0, rfl, rfl, rfl, (fun h => by cases h), ⟨rfl, hh0⟩, fun fs hl => c3.trans (X0.ireturnOut hexec hret rfl (Or.inr (Or.inr (Or.inl rfl))) (hb hbytes d8) hl)⟩
end CodL
/-- the String at a is Latin-1 over a new byte[] (the heap's one new cell): the low bytes of the len chars of A from o on; every cell but a is kept -/
def Got (a : Addr) (D : Cell) (fV fC : Field) (A : Cell) (o len : Nat) (r : Option Value) (s u : State) : Prop := r = none ∧ ∃ D' V : Cell, Blank "java/lang/String" a D' u ∧ Same D D' [fV.slot, fC.slot] ∧ D'.slots[fV.slot]? = some (.ref s.heap.size) ∧ D'.slots[fC.slot]? = some (.int 0) ∧ Arr .byte s.heap.size V u ∧ V.vm = .none ∧ u.vm.findClass "[B" = some V.cls ∧ V.slots.size = len ∧ (∀ j, j < len → V.slots[j]? = some (.int (lo8 (cv A (o + j))))) ∧ (∀ (y : Addr) (c : Cell), y ≠ a → s.heap[y]? = some c → u.heap[y]? = some c) ∧ u.heap.size = s.heap.size + 1
theorem Got.mv {a : Addr} {D A : Cell} {fV fC : Field} {o len : Nat} : ∀ r (U U' V V' : State), U'.heap = U.heap → V.vm.Alike V'.vm → V'.heap = V.heap → Got a D fV fC A o len r U V → Got a D fV fC A o len r U' V' :=
  fun r U U' V V' h1 hal h2 ⟨e0, D', X, a1, a2, a3, a4, a5, a6, a7, a8, a9, a10, a11⟩ => ⟨e0, D', X, a1.mv hal h2, a2, by rw [h1]; exact a3, a4, by rw [h1]; exact a5.mv hal h2, a6, by rw [hal.findClass]; exact a7, a8, a9, by rw [h1, h2]; exact a10, by rw [h1, h2]; exact a11⟩
namespace New4
def yN : MethodName := ⟨"java/lang/String", "<init>", "([CIILjava/lang/Void;)V"⟩
abbrev yB : ByteArray := jdk_42_method_149_code
theorem d0 : decode yB 0 = .ok (.aload_n 0, 1) := by decide +kernel
theorem d1 : decode yB 1 = .ok (.invokespecial 1, 3) := by decide +kernel
theorem d4 : decode yB 4 = .ok (.iload_n 3, 1) := by decide +kernel
theorem d5 : decode yB 5 = .ok (.ifCond (.ne) 22, 3) := by decide +kernel
theorem d27 : decode yB 27 = .ok (.getstatic 38, 3) := by decide +kernel
theorem d30 : decode yB 30 = .ok (.ifCond (.eq) 28, 3) := by decide +kernel
theorem d33 : decode yB 33 = .ok (.aload_n 1, 1) := by decide +kernel
theorem d34 : decode yB 34 = .ok (.iload_n 2, 1) := by decide +kernel
theorem d35 : decode yB 35 = .ok (.iload_n 3, 1) := by decide +kernel
theorem d36 : decode yB 36 = .ok (.invokestatic 177, 3) := by decide +kernel
theorem d39 : decode yB 39 = .ok (.astore 5, 2) := by decide +kernel
theorem d41 : decode yB 41 = .ok (.aload_n 0, 1) := by decide +kernel
theorem d42 : decode yB 42 = .ok (.aload 5, 2) := by decide +kernel
theorem d44 : decode yB 44 = .ok (.iload_n 3, 1) := by decide +kernel
theorem d45 : decode yB 45 = .ok (.invokestatic 47, 3) := by decide +kernel
theorem d48 : decode yB 48 = .ok (.putfield 15, 3) := by decide +kernel
theorem d51 : decode yB 51 = .ok (.aload_n 0, 1) := by decide +kernel
theorem d52 : decode yB 52 = .ok (.aload 5, 2) := by decide +kernel
theorem d54 : decode yB 54 = .ok (.putfield 9, 3) := by decide +kernel
theorem d57 : decode yB 57 = .ok (.return_, 1) := by decide +kernel
def site : List Cond := [.fieldLink "java/lang/String" 38 "java/lang/String" "COMPACT_STRINGS" "Z", Cmp3.tab, CodL.tab, .laysFinal "java/lang/String" "java/lang/String" "value" "[B", .fieldLink "java/lang/String" 9 "java/lang/String" "value" "[B", .laysFinal "java/lang/String" "java/lang/String" "coder" "B", .fieldLink "java/lang/String" 15 "java/lang/String" "coder" "B"] ++ objW "java/lang/String" 1 ++ staticW "java/lang/String" 177 Cmp3.yN ++ staticW "java/lang/String" 47 CodL.yN
def tab : Cond := tabOf yN yB 6 none site
def P (a : Addr) (D : Cell) (fV fC : Field) (b : Addr) (A : Cell) (z : Int32) (o len : Nat) (args : Array Value) (s : State) : Prop := args = #[.ref a, .ref b, .int (Int32.ofNat o), .int (Int32.ofNat len), .null] ∧ Blank "java/lang/String" a D s ∧ Found "java/lang/String" "value" "[B" fV s ∧ Found "java/lang/String" "coder" "B" fC s ∧ Ch b A s ∧ StaticIs s "java/lang/String" "COMPACT_STRINGS" "Z" (.int z) ∧ ¬ z = 0 ∧ 0 < len ∧ o + len ≤ A.slots.size ∧ len ≤ 536870912 ∧ ∀ i, i < len → ¬ 255 < cv A (o + i)
def E (a : Addr) (D : Cell) (fV fC : Field) (A : Cell) (o len : Nat) (r : Option Value) (s u : State) : Prop := Got a D fV fC A o len r s u
/-- len > 0, no char of the range above 255: a Latin-1 String of their low bytes -/
theorem law (l : Launch) (a : Addr) (D : Cell) (fV fC : Field) (b : Addr) (A : Cell) (z : Int32) (o len : Nat) : Law l yN 5 4 2 35 yB 6 none site (P a D fV fC b A z o len) (E a D fV fC A o len) [⟨a, fC.slot⟩, ⟨a, fV.slot⟩] 1 len := by
  refine Law.of_walk (plainFor_of_name (by decide +kernel)) (by decide +kernel) (by decide +kernel) (by decide) (fun _ _ h => by rw [h.1]; rfl) (fun _ U U' hal hh h => ⟨h.1, h.2.1.mv hal hh, h.2.2.1.al hal, h.2.2.2.1.al hal, h.2.2.2.2.1.mv hal hh, h.2.2.2.2.2.1.there hal hh, h.2.2.2.2.2.2⟩) (fun r U U' V V' h1 hal h2 h => Got.mv r U U' V V' h1 hal h2 h) ?_
  intro p e s m args below meth c s₁ X0 hexec hbytes hml hret hlk hnm hown hh0 W hP
  obtain ⟨rfl, hB, f1, f2, hA, s1, hz, l0, l1, l2, hp⟩ := hP
  have a31 := hA.1.2.2.2
  have c1 : Steps p.tables e below (s₁.setTop (entryFrame m #[.ref a, .ref b, .int (Int32.ofNat o), .int (Int32.ofNat len), .null] 6)) (s₁.setTop (mkF m 0 #[.val (.ref a), .val (.ref b), .val (.int (Int32.ofNat o)), .val (.int (Int32.ofNat len)), .val .null, .unset] [])) := entry rfl
  have c2 : Steps p.tables e below (s₁.setTop (entryFrame m #[.ref a, .ref b, .int (Int32.ofNat o), .int (Int32.ofNat len), .null] 6)) (s₁.setTop (mkF m 1 #[.val (.ref a), .val (.ref b), .val (.int (Int32.ofNat o)), .val (.int (Int32.ofNat len)), .val .null, .unset] [.ref a])) := c1.trans (by
    refine XS.aloadN X0.here hexec rfl (hb hbytes d0) rfl rfl ?_
    exact Steps.refl _)
  obtain ⟨T3, X3, q3, st3⟩ := X0.oinit hexec hown (wks W (objW "java/lang/String" 1)) (g := (mkF m 1 #[.val (.ref a), .val (.ref b), .val (.int (Int32.ofNat o)), .val (.int (Int32.ofNat len)), .val .null, .unset] [.ref a])) rfl (by rw [hml]; rfl) (rest := []) rfl (hb hbytes d1) (W := 0) (by show 2 * 0 + 0 ≤ _; decide) (Nat.le_of_ble_eq_true rfl) (Nat.le_of_ble_eq_true rfl)
  have hh3 := q3.trans hh0
  have c4 : Steps p.tables e below (s₁.setTop (entryFrame m #[.ref a, .ref b, .int (Int32.ofNat o), .int (Int32.ofNat len), .null] 6)) (T3.setTop (mkF m 27 #[.val (.ref a), .val (.ref b), .val (.int (Int32.ofNat o)), .val (.int (Int32.ofNat len)), .val .null, .unset] [])) := (c2.trans (st3 _ (Steps.refl _))).trans (by
    refine XS.iloadN X3.here hexec rfl (hb hbytes d4) rfl ?_
    refine XS.ifYes X3.here hexec rfl (pc0 := 5) rfl (hb hbytes d5) rfl (i0_ne_t (nz32 (by omega) l0)) (by decide) rfl ?_
    exact Steps.refl _)
  obtain ⟨T5, X5, q5, st5⟩ := X3.sget hexec hown (wk W (.fieldLink "java/lang/String" 38 "java/lang/String" "COMPACT_STRINGS" "Z")) s1 (fun _ _ h => by rw [hh3]; exact h) (g := (mkF m 27 #[.val (.ref a), .val (.ref b), .val (.int (Int32.ofNat o)), .val (.int (Int32.ofNat len)), .val .null, .unset] [])) rfl (hb hbytes d27)
  have hh5 := q5.trans hh3
  have c6 : Steps p.tables e below (s₁.setTop (entryFrame m #[.ref a, .ref b, .int (Int32.ofNat o), .int (Int32.ofNat len), .null] 6)) (T5.setTop (mkF m 30 #[.val (.ref a), .val (.ref b), .val (.int (Int32.ofNat o)), .val (.int (Int32.ofNat len)), .val .null, .unset] [.int z])) := c4.trans (st5 _ (Steps.refl _))
  have c7 : Steps p.tables e below (s₁.setTop (entryFrame m #[.ref a, .ref b, .int (Int32.ofNat o), .int (Int32.ofNat len), .null] 6)) (T5.setTop (mkF m 36 #[.val (.ref a), .val (.ref b), .val (.int (Int32.ofNat o)), .val (.int (Int32.ofNat len)), .val .null, .unset] [.int (Int32.ofNat len), .int (Int32.ofNat o), .ref b])) := c6.trans (by
    refine XS.ifNo X5.here hexec rfl (hb hbytes d30) rfl (i0_eq_f hz) ?_
    refine XS.aloadN X5.here hexec rfl (hb hbytes d33) rfl rfl ?_
    refine XS.iloadN X5.here hexec rfl (hb hbytes d34) rfl ?_
    refine XS.iloadN X5.here hexec rfl (hb hbytes d35) rfl ?_
    exact Steps.refl _)
  obtain ⟨v8, T8, X8, E8, g8⟩ := X5.callS hexec (Cmp3.law l b A o len) hown (wks W (staticW "java/lang/String" 177 Cmp3.yN)) (wk W Cmp3.tab) (W := 0) (Nat.le_of_ble_eq_true rfl) (Nat.le_of_ble_eq_true rfl) (Nat.le_refl _) (by show 0 + len ≤ len; omega) (g := (mkF m 36 #[.val (.ref a), .val (.ref b), .val (.int (Int32.ofNat o)), .val (.int (Int32.ofNat len)), .val .null, .unset] [.int (Int32.ofNat len), .int (Int32.ofNat o), .ref b])) rfl (by rw [hml]; rfl) c7 (argsL := [.ref b, .int (Int32.ofNat o), .int (Int32.ofNat len)]) (rest := []) rfl rfl (by show 2 * 0 + 0 ≤ _; decide) (hb hbytes d36) (⟨rfl, hA.mv X5.warmed.alike hh5, l1, l2, hp⟩)
  obtain ⟨e8, z8⟩ := E8
  obtain ⟨rfl, N, n1, n2, n3, n4, n5, n6⟩ := NewArr.mv _ T5 s _ _ hh5.symm (Vm.Alike.refl _) rfl e8
  rw [hh5] at z8
  have hB1 := hB.keep X8.warmed.alike (n6 _ _ hB.1)
  have hne : s.heap.size ≠ a := (Nat.ne_of_lt (Array.getElem?_eq_some_iff.mp hB.1).1).symm
  have c9 : Steps p.tables e below (s₁.setTop (entryFrame m #[.ref a, .ref b, .int (Int32.ofNat o), .int (Int32.ofNat len), .null] 6)) (T8.setTop (mkF m 39 #[.val (.ref a), .val (.ref b), .val (.int (Int32.ofNat o)), .val (.int (Int32.ofNat len)), .val .null, .unset] [.ref s.heap.size])) := g8
  have c10 : Steps p.tables e below (s₁.setTop (entryFrame m #[.ref a, .ref b, .int (Int32.ofNat o), .int (Int32.ofNat len), .null] 6)) (T8.setTop (mkF m 45 #[.val (.ref a), .val (.ref b), .val (.int (Int32.ofNat o)), .val (.int (Int32.ofNat len)), .val .null, .val (.ref s.heap.size)] [.int (Int32.ofNat N.slots.size), .ref s.heap.size, .ref a])) := by
    have hc : Steps p.tables e below (s₁.setTop (entryFrame m #[.ref a, .ref b, .int (Int32.ofNat o), .int (Int32.ofNat len), .null] 6)) (T8.setTop (mkF m 45 #[.val (.ref a), .val (.ref b), .val (.int (Int32.ofNat o)), .val (.int (Int32.ofNat len)), .val .null, .val (.ref s.heap.size)] [.int (Int32.ofNat len), .ref s.heap.size, .ref a])) := c9.trans (by
      refine XS.astore X8.here hexec rfl (hb hbytes d39) rfl rfl rfl ?_
      refine XS.aloadN X8.here hexec rfl (hb hbytes d41) rfl rfl ?_
      refine XS.aload X8.here hexec rfl (hb hbytes d42) rfl rfl ?_
      refine XS.iloadN X8.here hexec rfl (hb hbytes d44) rfl ?_
      exact Steps.refl _)
    rw [n4]; exact hc
  obtain ⟨v11, T11, X11, E11, g11⟩ := X8.callS hexec (CodL.law l s.heap.size N) hown (wks W (staticW "java/lang/String" 47 CodL.yN)) (wk W CodL.tab) (W := 1) (Nat.le_of_ble_eq_true rfl) (Nat.le_of_ble_eq_true rfl) (Nat.le_refl _) (by show 0 + len + 0 ≤ len; omega) (g := (mkF m 45 #[.val (.ref a), .val (.ref b), .val (.int (Int32.ofNat o)), .val (.int (Int32.ofNat len)), .val .null, .val (.ref s.heap.size)] [.int (Int32.ofNat N.slots.size), .ref s.heap.size, .ref a])) rfl (by rw [hml]; rfl) c10 (argsL := [.ref s.heap.size, .int (Int32.ofNat N.slots.size)]) (rest := [.ref a]) rfl rfl (by show 2 * 0 + (1 + 0) ≤ _; decide) (hb hbytes d45) (⟨rfl, n1⟩)
  obtain ⟨rfl, q11⟩ := E11
  have hB11 := hB1.mv (X8.warmed.alike.symm.trans X11.warmed.alike) q11
  have c12 : Steps p.tables e below (s₁.setTop (entryFrame m #[.ref a, .ref b, .int (Int32.ofNat o), .int (Int32.ofNat len), .null] 6)) (T11.setTop (mkF m 48 #[.val (.ref a), .val (.ref b), .val (.int (Int32.ofNat o)), .val (.int (Int32.ofNat len)), .val .null, .val (.ref s.heap.size)] [.int 0, .ref a])) := g11
  obtain ⟨T13, X13, p13, bl13, sl13, st13⟩ := X11.finit hexec hown (wk W (.fieldLink "java/lang/String" 15 "java/lang/String" "coder" "B")) (Or.inr ⟨_, (wk W (.laysFinal "java/lang/String" "java/lang/String" "coder" "B"))⟩) (Or.inl ⟨rfl, hnm⟩) f2 (Or.inl rfl) hB11 (t := .byte) (by decide +kernel) rfl (g := (mkF m 48 #[.val (.ref a), .val (.ref b), .val (.int (Int32.ofNat o)), .val (.int (Int32.ofNat len)), .val .null, .val (.ref s.heap.size)] [.int 0, .ref a])) rfl (rest := []) rfl (hb hbytes d48)
  have c14 : Steps p.tables e below (s₁.setTop (entryFrame m #[.ref a, .ref b, .int (Int32.ofNat o), .int (Int32.ofNat len), .null] 6)) (T13.setTop (mkF m 54 #[.val (.ref a), .val (.ref b), .val (.int (Int32.ofNat o)), .val (.int (Int32.ofNat len)), .val .null, .val (.ref s.heap.size)] [.ref s.heap.size, .ref a])) := (c12.trans (st13 _ (Steps.refl _))).trans (by
    refine XS.aloadN X13.here hexec rfl (hb hbytes d51) rfl rfl ?_
    refine XS.aload X13.here hexec rfl (hb hbytes d52) rfl rfl ?_
    exact Steps.refl _)
  obtain ⟨T15, X15, p15, bl15, sl15, st15⟩ := X13.finit hexec hown (wk W (.fieldLink "java/lang/String" 9 "java/lang/String" "value" "[B")) (Or.inr ⟨_, (wk W (.laysFinal "java/lang/String" "java/lang/String" "value" "[B"))⟩) (Or.inl ⟨rfl, hnm⟩) f1 (Or.inl rfl) bl13 (t := (.array .byte)) (by decide +kernel) rfl (g := (mkF m 54 #[.val (.ref a), .val (.ref b), .val (.int (Int32.ofNat o)), .val (.int (Int32.ofNat len)), .val .null, .val (.ref s.heap.size)] [.ref s.heap.size, .ref a])) rfl (rest := []) rfl (hb hbytes d54)
  have c16 : Steps p.tables e below (s₁.setTop (entryFrame m #[.ref a, .ref b, .int (Int32.ofNat o), .int (Int32.ofNat len), .null] 6)) (T15.setTop (mkF m 57 #[.val (.ref a), .val (.ref b), .val (.int (Int32.ofNat o)), .val (.int (Int32.ofNat len)), .val .null, .val (.ref s.heap.size)] [])) := c14.trans (st15 _ (Steps.refl _))
  have ap := apart (Or.inr ⟨_, (wk W (.laysFinal "java/lang/String" "java/lang/String" "value" "[B"))⟩) (Or.inr ⟨_, (wk W (.laysFinal "java/lang/String" "java/lang/String" "coder" "B"))⟩) f1 f2 (t₁ := .array .byte) (t₂ := .byte) (by decide +kernel) (by decide +kernel) (by decide)
  have al := X8.warmed.alike.symm.trans X15.warmed.alike
  have n7 : T11.heap[s.heap.size]? = some N := by rw [q11]; exact n1.1
  exact ⟨T15, none, _, _, _, X15, by simp, rfl, by omega, (fun _ => rfl), ⟨rfl, _, N, bl15, ((Same.refl D _).set _ (by simp)).set _ (by simp), sl15, (Cell.slots_setSlot_ne _ ap).trans sl13, n1.keep al (p15.other hne (p13.other hne n7)), n2, by rw [al.findClass]; exact n3, n4, n5, fun y c h1 h2 => p15.other h1 (p13.other h1 (by rw [q11]; exact n6 y c h2)), by rw [p15.2.2, p13.2.2, q11]; exact z8⟩, fun fs hl => c16.trans (X15.returnOut hexec hret (hb hbytes d57) hl)⟩
end New4
namespace New1
def yN : MethodName := ⟨"java/lang/String", "<init>", "([C)V"⟩
abbrev yB : ByteArray := jdk_42_method_3_code
theorem d0 : decode yB 0 = .ok (.aload_n 0, 1) := by decide +kernel
theorem d1 : decode yB 1 = .ok (.aload_n 1, 1) := by decide +kernel
theorem d2 : decode yB 2 = .ok (.iconst 0, 1) := by decide +kernel
theorem d3 : decode yB 3 = .ok (.aload_n 1, 1) := by decide +kernel
theorem d4 : decode yB 4 = .ok (.arraylength, 1) := by decide +kernel
theorem d5 : decode yB 5 = .ok (.aconst_null, 1) := by decide +kernel
theorem d6 : decode yB 6 = .ok (.invokespecial 27, 3) := by decide +kernel
theorem d9 : decode yB 9 = .ok (.return_, 1) := by decide +kernel
def site : List Cond := [New4.tab] ++ initW "java/lang/String" 27 New4.yN
def tab : Cond := tabOf yN yB 2 none site
def P (a : Addr) (D : Cell) (fV fC : Field) (b : Addr) (A : Cell) (z : Int32) (args : Array Value) (s : State) : Prop := args = #[.ref a, .ref b] ∧ Blank "java/lang/String" a D s ∧ Found "java/lang/String" "value" "[B" fV s ∧ Found "java/lang/String" "coder" "B" fC s ∧ Ch b A s ∧ StaticIs s "java/lang/String" "COMPACT_STRINGS" "Z" (.int z) ∧ ¬ z = 0 ∧ 0 < A.slots.size ∧ A.slots.size ≤ 536870912 ∧ ∀ i, i < A.slots.size → ¬ 255 < cv A i
def E (a : Addr) (D : Cell) (fV fC : Field) (A : Cell) (r : Option Value) (s u : State) : Prop := Got a D fV fC A 0 A.slots.size r s u
/-- new String(chars), not empty, no char above 255: a Latin-1 String of their low bytes -/
theorem law (l : Launch) (a : Addr) (D : Cell) (fV fC : Field) (b : Addr) (A : Cell) (z : Int32) : Law l yN 2 1 3 52 yB 2 none site (P a D fV fC b A z) (E a D fV fC A) [⟨a, fC.slot⟩, ⟨a, fV.slot⟩] 1 A.slots.size := by
  refine Law.of_walk (plainFor_of_name (by decide +kernel)) (by decide +kernel) (by decide +kernel) (by decide) (fun _ _ h => by rw [h.1]; rfl) (fun _ U U' hal hh h => ⟨h.1, h.2.1.mv hal hh, h.2.2.1.al hal, h.2.2.2.1.al hal, h.2.2.2.2.1.mv hal hh, h.2.2.2.2.2.1.there hal hh, h.2.2.2.2.2.2⟩) (fun r U U' V V' h1 hal h2 h => Got.mv r U U' V V' h1 hal h2 h) ?_
  intro p e s m args below meth c s₁ X0 hexec hbytes hml hret hlk hnm hown hh0 W hP
  obtain ⟨rfl, hB, f1, f2, hA, s1, hz, l0, l2, hp⟩ := hP
  have c1 : Steps p.tables e below (s₁.setTop (entryFrame m #[.ref a, .ref b] 2)) (s₁.setTop (mkF m 0 #[.val (.ref a), .val (.ref b)] [])) := entry rfl
  have c2 : Steps p.tables e below (s₁.setTop (entryFrame m #[.ref a, .ref b] 2)) (s₁.setTop (mkF m 6 #[.val (.ref a), .val (.ref b)] [.null, .int (Int32.ofNat A.slots.size), .int 0, .ref b, .ref a])) := c1.trans (by
    refine XS.aloadN X0.here hexec rfl (hb hbytes d0) rfl rfl ?_
    refine XS.aloadN X0.here hexec rfl (hb hbytes d1) rfl rfl ?_
    refine iconstV X0.here hexec rfl 0 (hb hbytes d2) (by decide) ?_
    refine XS.aloadN X0.here hexec rfl (hb hbytes d3) rfl rfl ?_
    refine X0.alen hexec (hA.1.mv X0.warmed.alike hh0) rfl rfl (hb hbytes d4) ?_
    refine XS.aconstNull X0.here hexec rfl (hb hbytes d5) ?_
    exact Steps.refl _)
  obtain ⟨v3, T3, X3, E3, g3⟩ := X0.callN hexec (New4.law l a D fV fC b A z 0 A.slots.size) rfl hown (wks W (initW "java/lang/String" 27 New4.yN)) (W New4.tab (by simp only [site, List.mem_cons, List.mem_append, true_or, or_true])) (W := 0) (Nat.le_of_ble_eq_true rfl) (Nat.le_of_ble_eq_true rfl) (Nat.le_refl _) (by show 0 + A.slots.size ≤ A.slots.size; omega) (g := (mkF m 6 #[.val (.ref a), .val (.ref b)] [.null, .int (Int32.ofNat A.slots.size), .int (Int32.ofNat 0), .ref b, .ref a])) rfl (by rw [hml]; rfl) c2 (argsL := [.ref b, .int (Int32.ofNat 0), .int (Int32.ofNat A.slots.size), .null]) (rest := []) rfl rfl (by show 2 * 0 + 0 ≤ _; decide) (hb hbytes d6) (⟨rfl, hB.mv X0.warmed.alike hh0, f1.al X0.warmed.alike, f2.al X0.warmed.alike, hA.mv X0.warmed.alike hh0, s1.there X0.warmed.alike hh0, hz, l0, by omega, l2, fun i hi => by rw [Nat.zero_add]; exact hp i hi⟩)
  have e0 := Got.mv _ s₁ s _ _ hh0.symm (Vm.Alike.refl _) rfl E3
  obtain rfl := e0.1
  have c4 : Steps p.tables e below (s₁.setTop (entryFrame m #[.ref a, .ref b] 2)) (T3.setTop (mkF m 9 #[.val (.ref a), .val (.ref b)] [])) := g3
  exact ⟨T3, none, _, _, _, X3, by simp, rfl, by omega, (fun _ => rfl), e0, fun fs hl => c4.trans (X3.returnOut hexec hret (hb hbytes d9) hl)⟩
theorem pays {l : Launch} {R : Room} {p : Program} {e : Env} {below : List Frame} {s : State} {sargs : Array Value} {len W : Nat} (a : Addr) (D : Cell) (fV fC : Field) (b : Addr) (A : Cell) (z : Int32) (htab : tab.before sargs s = true) (hfr : 4 ≤ R.frames) (hlo : W + 65 ≤ R.locals) :
    Back l R p e below s sargs yN len W (fun A₁ a₁ => A₁.cells + 1 ≤ R.cells ∧ A₁.slots + A.slots.size ≤ R.slots ∧ P a D fV fC b A z a₁ A₁.U) (fun A₁ _ v₁ B₁ => E a D fV fC A v₁ A₁.U B₁.U ∧ B₁.locs = A₁.locs ++ [⟨a, fC.slot⟩, ⟨a, fV.slot⟩] ∧ B₁.cells = A₁.cells + 1 ∧ B₁.slots = A₁.slots + A.slots.size) :=
  (law l a D fV fC b A z).pays htab hfr (by omega)
end New1
/-- the byte, read back as charAt reads it, is the char -/
theorem lo8_mask {x : Int32} (h0 : ¬ x < 0) (h1 : ¬ 255 < x) : lo8 x &&& 255 = x := by
  have t : ∀ k : Fin 256, lo8 (Int32.ofNat k.val) &&& 255 = Int32.ofNat k.val := by decide +kernel
  rw [Int32.lt_iff_toInt_lt] at h0 h1
  have e0 : (0 : Int32).toInt = 0 := rfl
  have e1 : (255 : Int32).toInt = 255 := rfl
  obtain ⟨k, hk⟩ : ∃ k : Nat, x.toInt = k := ⟨x.toInt.toNat, by omega⟩
  have hx : x = Int32.ofNat k := Int32.toInt_inj.mp (by rw [hk, Int32.toInt_ofNat_small (by omega)])
  rw [hx]
  exact t ⟨k, by omega⟩
end StrChars
namespace StrChars.Road
open Jvm Sem ClassFile Op Lib Jvm.Stand Jvm.Free Jvm.Free.XT
open Jvm.Lib.Cold (StaticIs)
abbrev ST : String := "java/lang/String"
/-- every table word that New1's law asks, flat -/
abbrev words : List Jvm.Cond := [.code New1.yN New1.yB 2 none, .initialized ST, .methodLink ST 27 New4.yN, .instanceMethod New4.yN,
  .code New4.yN New4.yB 6 none, .fieldLink ST 38 ST "COMPACT_STRINGS" "Z", .laysFinal ST ST "value" "[B", .fieldLink ST 9 ST "value" "[B", .laysFinal ST ST "coder" "B", .fieldLink ST 15 ST "coder" "B",
  .methodLink ST 1 Lib.objectInit, .instanceMethod Lib.objectInit, .code Lib.objectInit ⟨#[0xb1]⟩ 1 none, .methodLink ST 177 Cmp3.yN, .static Cmp3.yN, .methodLink ST 47 CodL.yN, .static CodL.yN,
  .code Cmp3.yN Cmp3.yB 6 (some (.array .byte)), .initialized U16, .arrayClass .byte, .methodLink U16 115 Cmp5.yN, .static Cmp5.yN, .code Cmp5.yN Cmp5.yB 7 (some .int), .code CodL.yN CodL.yB 2 (some .byte)]
theorem tab_of {a : Array Value} {s : State} (h : ∀ w ∈ words, w.before a s = true) : New1.tab.before a s = true := by
  have h5 : Cmp5.tab.before a s = true := unparts (wk h (.code Cmp5.yN Cmp5.yB 7 (some .int))) (wks h (.initialized Cmp5.yN.cls :: Cmp5.site))
  have hc : CodL.tab.before a s = true := unparts (wk h (.code CodL.yN CodL.yB 2 (some .byte))) (wks h (.initialized CodL.yN.cls :: CodL.site))
  have q5 : ∀ w ∈ Cmp5.tab :: words, w.before a s = true := fun w hw => (List.mem_cons.mp hw).elim (fun e => e ▸ h5) (h w)
  have h3 : Cmp3.tab.before a s = true := unparts (wk q5 (.code Cmp3.yN Cmp3.yB 6 (some (.array .byte)))) (wks q5 (.initialized Cmp3.yN.cls :: Cmp3.site))
  have q3 : ∀ w ∈ Cmp3.tab :: CodL.tab :: words, w.before a s = true := fun w hw => (List.mem_cons.mp hw).elim (fun e => e ▸ h3) fun hw => (List.mem_cons.mp hw).elim (fun e => e ▸ hc) (h w)
  have h4 : New4.tab.before a s = true := unparts (wk q3 (.code New4.yN New4.yB 6 none)) (wks q3 (.initialized New4.yN.cls :: New4.site))
  have q4 : ∀ w ∈ New4.tab :: words, w.before a s = true := fun w hw => (List.mem_cons.mp hw).elim (fun e => e ▸ h4) (h w)
  exact unparts (wk q4 (.code New1.yN New1.yB 2 none)) (wks q4 (.initialized New1.yN.cls :: New1.site))
/-- the words ride from the start Z to the walk's own state -/
theorem moved {Z s : State} {a0 args : Array Value} (hZ : Z.Warmed39 s.vm) (hw : ∀ d ∈ words, d.before a0 Z = true) : ∀ d ∈ words, d.before args s = true := fun d hd => by
  have q := hw d hd
  have t : ∀ d ∈ words, d = .arrayClass .byte ∨ (d.onTables && d.keepsFace) = true := by decide +kernel
  rcases t d hd with rfl | t
  · exact RoadKit.mvA hZ q
  · exact RoadKit.mv hZ q t
/-- WHAT COMES BACK, over the tables of the start Z: h the heap at the call, h' behind it -/
def Q (Z : State) (x : Addr) (A : Cell) (h : Heap) (v : Option Value) (h' : Heap) (L : List Loc) : Prop := v = none ∧ (∀ y ∈ L, y.base = x) ∧ RoadKit.Keep h h' [x] ∧ h'.size = h.size + 1 ∧ RoadKit.Exa Z h' x ST ∧ RoadKit.Fld Z h' x ST "value" "[B" (.ref h.size) ∧ RoadKit.Fld Z h' x ST "coder" "B" (.int 0) ∧
  (∃ V : Cell, RoadKit.Arr Z h' h.size V .byte ∧ V.vm = .none ∧ Z.vm.findClass "[B" = some V.cls ∧ V.slots.size = A.slots.size ∧ ∀ j, j < A.slots.size → V.slots[j]? = some (.int (lo8 (cv A j)))) ∧
  ∀ (O n d : String) (w : Value), RoadKit.Fld Z h x O n d w → RoadKit.slotOf Z O n d ≠ RoadKit.slotOf Z ST "value" "[B" → RoadKit.slotOf Z O n d ≠ RoadKit.slotOf Z ST "coder" "B" → RoadKit.Fld Z h' x O n d w
/-- **new String(chars) AT A CALL, IN THE ROAD'S FORM**: for specialBack behind newO: x the fresh String, b the char[] with the cell A -/
theorem back {p : Program} {l : Launch} {e : Env} {R : Room} {s : State} {args : Array Value} {below : List Frame} {len W : Nat} {Z : State} {a0 : Array Value} {h : Heap} (hZ : Z.Warmed39 s.vm) (hw : ∀ d ∈ words, d.before a0 Z = true) {kI : Nat} (wi : (Jvm.Cond.instantiable ST kI).before a0 Z = true)
    {x b : Addr} {A : Cell} {z : Int32} {v0 c0 : Value} (E : RoadKit.Exa Z h x ST) (V : RoadKit.Fld Z h x ST "value" "[B" v0) (C : RoadKit.Fld Z h x ST "coder" "B" c0) (K : RoadKit.Arr Z h b A .char) (hty : Typed .char A) (S : RoadKit.Sta Z h ST "COMPACT_STRINGS" "Z" (.int z)) (hz : ¬ z = 0)
    (l0 : 0 < A.slots.size) (l2 : A.slots.size ≤ 536870912) (hp : ∀ i, i < A.slots.size → ¬ 255 < cv A i) (hfr : 4 ≤ R.frames) (hlo : W + 65 ≤ R.locals) :
    Back l R p e below s args New1.yN len W (fun P a => a = #[.ref x, .ref b] ∧ P.U.heap = h ∧ P.cells + 1 ≤ R.cells ∧ P.slots + A.slots.size ≤ R.slots)
      (fun P _ v B => ∃ L, Q Z x A h v B.U.heap L ∧ B.locs = P.locs ++ L ∧ B.cells = P.cells + 1 ∧ B.slots = P.slots + A.slots.size) := by
  intro m meth c P g ig mk a X hg hsize hdg hW hn hp'
  obtain ⟨rfl, rfl, r1, r2⟩ := hp'
  have al : Z.vm.Alike P.U.vm := hZ.alike.trans X.warmed.alike
  obtain ⟨D, cfV, kV, iV, fV, hD, gV, stV, knV, obV, asV, slV⟩ := id V
  obtain ⟨D', cfC, kC, iC, fC, hD', gC, stC, -, -, asC, slC⟩ := id C
  cases hD.symm.trans hD'
  obtain ⟨D2, kD, e1, e2, e3, e4, e5⟩ := id E
  cases hD.symm.trans e1
  obtain ⟨c2, k2, i1, i2, i3, -⟩ := Cond.instantiable_spec wi
  cases e2.symm.trans i1
  cases e3.symm.trans i2
  obtain ⟨kU, u1, u2⟩ := al.2.2 _ _ e3
  have hB : Blank ST x D P.U := ⟨hD, ⟨knV, fun q hq => by rw [hq] at obV; cases obV⟩, by rw [al.findClass]; exact e2, kU, u1, by rw [u2]; exact i3, by rw [u2]; exact e5 i3⟩
  have F1 : Found ST "value" "[B" fV P.U := ⟨SBG.found_only al ⟨cfV, kV, iV, gV⟩, stV⟩
  have F2 : Found ST "coder" "B" fC P.U := ⟨SBG.found_only al ⟨cfC, kC, iC, gC⟩, stC⟩
  have hA : Ch b A P.U := ⟨⟨K.1, State.isArrayOf_alike al K.2.1, K.2.2, by omega⟩, hty⟩
  have hS : StaticIs P.U ST "COMPACT_STRINGS" "Z" (.int z) := by
    obtain ⟨cfS, iS, kS, fS, st, cS, t1, t2, t3, t4, t5, t6, t7⟩ := S
    exact StaticIs.there (s := { Z with heap := P.U.heap }) ⟨cfS, iS, kS, fS, st, cS, t1, t2, t3, t4, t5, (fun q => by rw [q] at t6; cases t6), t7⟩ al rfl
  obtain ⟨v, B, X', ⟨⟨hv, E', V', q1, q2, q3, q4, q5, q6, q7, q8, q9, q10, q11⟩, hl, hc, hs⟩, st⟩ := New1.pays x D fV fC b A z (tab_of (moved hZ hw)) hfr hlo m meth c P g ig mk _ X hg hsize hdg hW hn ⟨r1, r2, rfl, hB, F1, F2, hA, hS, hz, l0, l2, hp⟩
  have al' : Z.vm.Alike B.U.vm := hZ.alike.trans X'.warmed.alike
  have hsz : E'.slots.size = D.slots.size := by
    obtain ⟨-, -, -, kB, w1, w2, w3⟩ := q1
    obtain ⟨kB', y1, y2⟩ := al'.2.2 _ _ e3
    rw [q2.2.1] at w1
    cases w1.symm.trans y1
    rw [w3, e5 i3, y2]
  refine ⟨v, B, X', ⟨_, ⟨hv, ?_, ⟨by omega, fun y cy hy hn' => q10 y cy (by simpa using hn') hy, fun y cy hy => ?_⟩, q11, ⟨E', _, q1.1, by rw [q2.2.1]; exact e2, by rw [q2.2.1]; exact e3, by rw [q2.1]; exact obV, fun _ => by rw [hsz]; exact e5 i3⟩,
    ⟨E', cfV, kV, iV, fV, q1.1, gV, stV, by rw [q2.1]; exact knV, by rw [q2.1]; exact obV, by rw [q2.2.1]; exact asV, q3⟩, ⟨E', cfC, kC, iC, fC, q1.1, gC, stC, by rw [q2.1]; exact knV, by rw [q2.1]; exact obV, by rw [q2.2.1]; exact asC, q4⟩,
    ⟨V', ⟨q5.1, State.isArrayOf_alike al'.symm q5.2.1, q5.2.2.1⟩, q6, by rw [← al'.findClass]; exact q7, q8, fun j hj => by have := q9 j hj; rwa [Nat.zero_add] at this⟩, fun O n d w F n1 n2 => ?_⟩, hl, hc, hs⟩, st⟩
  · intro y hy
    simp only [List.mem_cons, List.not_mem_nil, or_false] at hy
    rcases hy with rfl | rfl <;> rfl
  · by_cases q : y = x
    · subst q
      cases hD.symm.trans hy
      exact ⟨E', q1.1, q2.2.1, q2.1, hsz⟩
    · exact ⟨cy, q10 y cy q hy, rfl, rfl, rfl⟩
  · obtain ⟨D3, cf, k, i, f, g1, g2, g3, g4, g5, g6, g7⟩ := F
    cases hD.symm.trans g1
    simp only [RoadKit.slotOf, g2, gV, gC, Option.map_some, Option.getD_some] at n1 n2
    exact ⟨E', cf, k, i, f, q1.1, g2, g3, by rw [q2.1]; exact g4, by rw [q2.1]; exact g5, by rw [q2.2.1]; exact g6, by rw [q2.2.2 f.slot (by simp [n1, n2])]; exact g7⟩
end StrChars.Road
namespace StrChars.Road
open Jvm Sem ClassFile Op Lib Jvm.Stand Jvm.Free Jvm.Free.XT
/-- WHAT COMES BACK, the byte[] as a list of values -/
def QA (Z : State) (x : Addr) (zn : Int32) (cs : List Int32) (h : Heap) (v : Option Value) (h' : Heap) (L : List Loc) : Prop := v = none ∧ (∀ y ∈ L, y.base = x) ∧ RoadKit.Keep h h' [x] ∧ h'.size = h.size + 1 ∧ RoadKit.Exa Z h' x ST ∧ RoadKit.Fld Z h' x ST "value" "[B" (.ref h.size) ∧ RoadKit.Fld Z h' x ST "coder" "B" (.int 0) ∧
  (∃ kb, Z.vm.findClass "[B" = some kb ∧ RoadKit.Arv Z h' h.size kb .byte zn (cs.map fun c => .int (lo8 c)) (.int 0)) ∧
  ∀ (O n d : String) (w : Value), RoadKit.Fld Z h x O n d w → RoadKit.slotOf Z O n d ≠ RoadKit.slotOf Z ST "value" "[B" → RoadKit.slotOf Z O n d ≠ RoadKit.slotOf Z ST "coder" "B" → RoadKit.Fld Z h' x O n d w
/-- **new String(chars) AT A CALL, THE ARRAYS AS LISTS**: the char[] at b holds cs, not empty, no char above 255 -/
theorem backArv {p : Program} {l : Launch} {e : Env} {R : Room} {s : State} {args : Array Value} {below : List Frame} {len W : Nat} {Z : State} {a0 : Array Value} {h : Heap} (hZ : Z.Warmed39 s.vm) (hw : ∀ d ∈ words, d.before a0 Z = true) {kI : Nat} (wi : (Jvm.Cond.instantiable ST kI).before a0 Z = true)
    {x b : Addr} {k : ClassId} {zn z : Int32} {cs : List Int32} {dv v0 c0 : Value} (E : RoadKit.Exa Z h x ST) (V : RoadKit.Fld Z h x ST "value" "[B" v0) (C : RoadKit.Fld Z h x ST "coder" "B" c0) (K : RoadKit.Arv Z h b k .char zn (cs.map Value.int) dv) (S : RoadKit.Sta Z h ST "COMPACT_STRINGS" "Z" (.int z)) (hz : ¬ z = 0)
    (hlen : zn.toNatClampNeg = cs.length) (h0 : 0 < cs.length) (hbig : cs.length ≤ 536870912) (hall : ∀ c ∈ cs, ¬ 255 < c) (hfr : 4 ≤ R.frames) (hlo : W + 65 ≤ R.locals) :
    Back l R p e below s args New1.yN len W (fun P a => a = #[.ref x, .ref b] ∧ P.U.heap = h ∧ P.cells + 1 ≤ R.cells ∧ P.slots + cs.length ≤ R.slots)
      (fun P _ v B => ∃ L, QA Z x zn cs h v B.U.heap L ∧ B.locs = P.locs ++ L ∧ B.cells = P.cells + 1 ∧ B.slots = P.slots + cs.length) := by
  obtain ⟨A, K1, K2, K3, K4, K5, K6⟩ := K
  have e : A.slots.size = cs.length := K3.trans hlen
  have hat : ∀ (i : Nat) (hi : i < cs.length), A.slots[i]? = some (.int cs[i]) := fun i hi => by rw [K5 i (by omega)]; simp [List.getD_eq_getElem?_getD, hi]
  have hcv : ∀ (i : Nat) (hi : i < cs.length), cv A i = cs[i] := fun i hi => by unfold cv; rw [hat i hi]
  have hty : Typed .char A := fun i v hv => by
    have hi : i < A.slots.size := (Array.getElem?_eq_some_iff.mp hv).1
    have q := K5 i hi
    rw [hv] at q
    rw [Option.some.inj q]
    exact K6 i hi
  refine Back.mono (back hZ hw wi E V C K1 hty S hz (by omega) (by omega) (fun i hi => by rw [hcv i (by omega)]; exact hall _ (List.getElem_mem _)) hfr hlo) (fun P a hp => ⟨hp.1, hp.2.1, hp.2.2.1, by rw [e]; exact hp.2.2.2⟩) (fun P a v B hp hq => ?_)
  obtain ⟨L, ⟨q1, q2, q3, q4, q5, q6, q7, ⟨V', v1, v2, v3, v4, v5⟩, q9⟩, hl, hc, hs⟩ := hq
  refine ⟨L, ⟨q1, q2, q3, q4, q5, q6, q7, ⟨V'.cls, v3, V', v1, rfl, by rw [v4, e, hlen], K4, fun i hi => ?_, fun i hi => ?_⟩, q9⟩, hl, hc, by rw [hs, e]⟩
  · have hi' : i < cs.length := by omega
    rw [v5 i (by omega), hcv i hi']; simp [List.getD_eq_getElem?_getD, hi']
  · have hi' : i < cs.length := by omega
    simp only [List.getD_eq_getElem?_getD, List.getElem?_map, List.getElem?_eq_getElem hi', Option.map_some, Option.getD_some]
    exact fits_lo8 _
end StrChars.Road
namespace StrChars.Road
open Jvm Sem ClassFile Op Lib Jvm.Stand Jvm.Free Jvm.Free.XT
/-- WHAT COMES BACK, in the writer's own shape -/
def QV (Z : State) (x : Addr) (N : Int32) (bs : List Int32) (h : Heap) (n0 : Nat) (v : Option Value) (h' : Heap) (L : List Loc) : Prop := v = none ∧ RoadKit.Fr n0 L ∧ RoadKit.Keep h h' [x] ∧ RoadKit.Exa Z h' x ST ∧ RoadKit.Fld Z h' x ST "coder" "B" (.int 0) ∧
  ∃ (t : Addr) (kb : ClassId), n0 ≤ t ∧ h.size ≤ t ∧ ¬ t = x ∧ RoadKit.Fld Z h' x ST "value" "[B" (.ref t) ∧ RoadKit.Arv Z h' t kb .byte N (bs.map Value.int) (.int 0)
/-- **new String(chars) AT A CALL, FOR THE WRITER**: a char[] of n known ints, each 0 to 255 -/
theorem backV {p : Program} {l : Launch} {e : Env} {R : Room} {s : State} {args : Array Value} {below : List Frame} {len W : Nat} {Z : State} {a0 : Array Value} {h : Heap} (hZ : Z.Warmed39 s.vm) (hw : ∀ d ∈ words, d.before a0 Z = true) {kI : Nat} (wi : (Jvm.Cond.instantiable ST kI).before a0 Z = true)
    {x b : Addr} {kC : ClassId} {cs bs : List Int32} {d v0 c0 : Value} {z N : Int32} {n n0 : Nat} (hx0 : n0 ≤ x) (hh0 : n0 ≤ h.size) (E : RoadKit.Exa Z h x ST) (V : RoadKit.Fld Z h x ST "value" "[B" v0) (C : RoadKit.Fld Z h x ST "coder" "B" c0) (K : RoadKit.Arv Z h b kC .char N (cs.map Value.int) d) (S : RoadKit.Sta Z h ST "COMPACT_STRINGS" "Z" (.int z)) (hz : ¬ z = 0)
    (hn : cs.length = n) (hN : N = Int32.ofNat n) (l0 : 0 < n) (l2 : n ≤ 4000) (hp : ∀ c ∈ cs, ¬ c < 0 ∧ ¬ (255 : Int32) < c) (hb : bs = cs.map (fun c => c.toInt8.toInt32)) (hfr : 4 ≤ R.frames) (hlo : W + 65 ≤ R.locals) :
    Back l R p e below s args (⟨"java/lang/String", "<init>", "([C)V"⟩ : MethodName) len W (fun P a => a = #[.ref x, .ref b] ∧ P.U.heap = h ∧ P.cells + 1 ≤ R.cells ∧ P.slots + n ≤ R.slots)
      (fun P _ v B => ∃ L, QV Z x N bs h n0 v B.U.heap L ∧ B.locs = P.locs ++ L ∧ B.cells = P.cells + 1 ∧ B.slots = P.slots + n) := by
  subst hn hN hb
  refine Back.mono (backArv hZ hw wi E V C K S hz (n32 (by omega)) l0 (by omega) (fun c hc => (hp c hc).2) hfr hlo) (fun P a hp => hp) (fun P a v B hp hq => ?_)
  obtain ⟨L, ⟨q1, q2, q3, q4, q5, q6, q7, ⟨kb, v1, v2⟩, q9⟩, hl, hc, hs⟩ := hq
  exact ⟨L, ⟨q1, fun y hy => by rw [q2 y hy]; exact hx0, q3, q5, q7, h.size, kb, hh0, Nat.le_refl _, Nat.ne_of_gt E.lt, q6, by rw [List.map_map]; exact v2⟩, hl, hc, hs⟩
end StrChars.Road
namespace StrChars
open Jvm Sem ClassFile Op Lib Jvm.Stand Jvm.Free.XT Jvm.Free.ALB Jvm.Free.JM Jvm.Free
open Jvm.Lib.Cold (StaticIs)
def hi8 (x : Int32) : Int32 := lo8 (x >>> ((8 : Int32) &&& 31))
/-- what StringUTF16.getChar makes of two bytes -/
def pairCh (u v : Int32) : Int32 := (((u &&& 255) <<< ((0 : Int32) &&& 31)) ||| ((v &&& 255) <<< ((8 : Int32) &&& 31))).toUInt32.toUInt16.toUInt32.toInt32
theorem shr0 (c : Int32) : c >>> ((0 : Int32) &&& 31) = c := by
  have e : ((0 : Int32) &&& 31) = 0 := by decide
  rw [e]
  apply Int32.toBitVec_inj.mp
  rw [Int32.toBitVec_shiftRight]
  have e1 : ((0 : Int32).toBitVec.smod 32) = 0#32 := by decide
  rw [e1, BitVec.sshiftRight_eq']
  exact BitVec.sshiftRight_zero
theorem lo8_and (x : Int32) : (lo8 x &&& 255).toBitVec.toNat = x.toBitVec.toNat % 256 := by
  have h : (lo8 x).toBitVec = (x.toBitVec.signExtend 8).signExtend 32 := by rw [lo8, Int8.toBitVec_toInt32, Int32.toBitVec_toInt8]
  rw [Int32.toBitVec_and, BitVec.toNat_and, h]
  have e : ((x.toBitVec.signExtend 8).signExtend 32).toNat % 256 = x.toBitVec.toNat % 256 := by
    rw [BitVec.toNat_signExtend]
    have hlt := x.toBitVec.isLt
    simp only [BitVec.toNat_setWidth, BitVec.toNat_signExtend]
    split <;> split <;> omega
  rw [← e]
  exact Nat.and_two_pow_sub_one_eq_mod _ 8
theorem pair_says {c : Int32} (h0 : ¬ c < 0) (h1 : ¬ 65535 < c) : pairCh (lo8 c) (hi8 c) = c := by
  rw [Int32.lt_iff_toInt_lt] at h0 h1
  have e0 : (0 : Int32).toInt = 0 := rfl
  have e1 : (65535 : Int32).toInt = 65535 := rfl
  have hc : c.toInt = c.toBitVec.toNat := by
    have := c.toBitVec.isLt
    have e : c.toInt = c.toBitVec.toInt := rfl
    rw [e] at h0 h1
    rw [e]
    rw [BitVec.toInt_eq_toNat_cond] at h0 h1 ⊢
    split at h0 <;> split <;> omega
  have hn : c.toBitVec.toNat < 65536 := by omega
  have a1 := lo8_and c
  have a2 : (hi8 c &&& 255).toBitVec.toNat = c.toBitVec.toNat / 256 := by
    rw [hi8, lo8_and]
    have e : ((8 : Int32) &&& 31) = 8 := by decide
    rw [e, Int32.toBitVec_shiftRight]
    have e2 : ((8 : Int32).toBitVec.smod 32) = 8#32 := by decide
    rw [e2, BitVec.sshiftRight_eq', BitVec.toNat_sshiftRight_of_msb_false (by rw [BitVec.msb_eq_false_iff_two_mul_lt]; omega)]
    show c.toBitVec.toNat >>> 8 % 256 = _
    rw [Nat.shiftRight_eq_div_pow]
    omega
  unfold pairCh
  apply Int32.toBitVec_inj.mp
  apply BitVec.eq_of_toNat_eq
  have f0 : ((0 : Int32) &&& 31) = 0 := by decide
  have f8 : ((8 : Int32) &&& 31) = 8 := by decide
  rw [f0, f8]
  have g : (((lo8 c &&& 255) <<< (0 : Int32)) ||| ((hi8 c &&& 255) <<< (8 : Int32))).toBitVec.toNat = c.toBitVec.toNat := by
    rw [Int32.toBitVec_or, Int32.toBitVec_shiftLeft, Int32.toBitVec_shiftLeft]
    have s0 : ((0 : Int32).toBitVec.smod 32) = 0#32 := by decide
    have s8 : ((8 : Int32).toBitVec.smod 32) = 8#32 := by decide
    rw [s0, s8, BitVec.toNat_or]
    simp only [BitVec.shiftLeft_eq', BitVec.toNat_shiftLeft, a1, a2]
    show (c.toBitVec.toNat % 256) <<< 0 % 2 ^ 32 ||| (c.toBitVec.toNat / 256) <<< 8 % 2 ^ 32 = _
    rw [Nat.shiftLeft_zero, Nat.mod_eq_of_lt (show c.toBitVec.toNat % 256 < 2 ^ 32 by omega), Nat.mod_eq_of_lt (show (c.toBitVec.toNat / 256) <<< 8 < 2 ^ 32 by rw [Nat.shiftLeft_eq]; omega), Nat.or_comm, ← Nat.shiftLeft_add_eq_or_of_lt (by omega), Nat.shiftLeft_eq]
    omega
  show BitVec.toNat (((((lo8 c &&& 255) <<< (0 : Int32)) ||| ((hi8 c &&& 255) <<< (8 : Int32))).toBitVec.setWidth 16).setWidth 32) = _
  rw [BitVec.toNat_setWidth, BitVec.toNat_setWidth, g]
  omega
end StrChars
namespace StrChars
open Jvm Sem ClassFile Op Lib Jvm.Stand Jvm.Free.XT Jvm.Free.ALB Jvm.Free.JM Jvm.Free
open Jvm.Lib.Cold (StaticIs)
theorem shr1 {n : Nat} (h : 2 * n < 2 ^ 31) : Int32.ofNat (2 * n) >>> ((1 : Int32) &&& 31) = Int32.ofNat n := by
  have e : ((1 : Int32) &&& 31) = 1 := by decide
  rw [e]
  apply Int32.toBitVec_inj.mp
  rw [Int32.toBitVec_shiftRight]
  have e1 : ((1 : Int32).toBitVec.smod 32) = 1#32 := by decide
  have hm : (BitVec.ofNat 32 (2 * n)).toNat = 2 * n := by rw [BitVec.toNat_ofNat, Nat.mod_eq_of_lt (by omega)]
  rw [e1, BitVec.sshiftRight_eq']
  apply BitVec.eq_of_toNat_eq
  show ((BitVec.ofNat 32 (2 * n)).sshiftRight 1).toNat = (BitVec.ofNat 32 n).toNat
  rw [BitVec.toNat_sshiftRight_of_msb_false (by rw [BitVec.msb_eq_false_iff_two_mul_lt, hm]; omega), hm, BitVec.toNat_ofNat, Nat.shiftRight_eq_div_pow]
  omega
/-- the array's cell V codes the n chars f 0 .. f (n - 1) by the coder cd, as the JDK does: coder 1 just where some char is above 255 -/
def Cod (cd : Int32) (n : Nat) (f : Nat → Int32) (V : Cell) : Prop := (cd = 0 ∧ V.slots.size = n ∧ ∀ j, j < n → V.slots[j]? = some (.int (lo8 (f j))) ∧ ¬ 255 < f j) ∨ (cd = 1 ∧ V.slots.size = 2 * n ∧ (∀ j, j < n → V.slots[2 * j]? = some (.int (lo8 (f j))) ∧ V.slots[2 * j + 1]? = some (.int (hi8 (f j)))) ∧ ∃ j, j < n ∧ 255 < f j)
theorem Cod.cd {cd : Int32} {n : Nat} {f : Nat → Int32} {V : Cell} (h : Cod cd n f V) : cd = 0 ∨ cd = 1 := h.imp (fun q => q.1) fun q => q.1
theorem Cod.len {cd : Int32} {n : Nat} {f : Nat → Int32} {V : Cell} (h : Cod cd n f V) (hs : V.slots.size < 2 ^ 31) : Int32.ofNat V.slots.size >>> (cd &&& 31) = Int32.ofNat n := by
  rcases h with ⟨rfl, h, -⟩ | ⟨rfl, h, -⟩
  · rw [shr0, h]
  · rw [h, shr1 (by omega)]
/-- **x is a String of the n chars f 0 .. f (n - 1)**, Latin-1 or UTF-16; its array at t has the cell V -/
def Txt (x t : Addr) (V : Cell) (cd : Int32) (n : Nat) (f : Nat → Int32) (U : State) : Prop := Exact "java/lang/String" x U ∧ Has x "java/lang/String" "value" "[B" (.ref t) U ∧ Has x "java/lang/String" "coder" "B" (.int cd) U ∧ XT.Arr .byte t V U ∧ Cod cd n f V ∧ ∀ j, j < n → ¬ f j < 0 ∧ ¬ 65535 < f j
theorem Txt.mv {x t : Addr} {V : Cell} {cd : Int32} {n : Nat} {f : Nat → Int32} {U U' : State} (h : Txt x t V cd n f U) (hal : U.vm.Alike U'.vm) (hh : U'.heap = U.heap) : Txt x t V cd n f U' := ⟨h.1.mv hal hh, h.2.1.mv hal hh, h.2.2.1.mv hal hh, h.2.2.2.1.mv hal hh, h.2.2.2.2⟩
namespace Cdr
def yN : MethodName := ⟨"java/lang/String", "coder", "()B"⟩
abbrev yB : ByteArray := jdk_42_method_152_code
theorem d0 : decode yB 0 = .ok (.getstatic 38, 3) := by decide +kernel
theorem d3 : decode yB 3 = .ok (.ifCond (.eq) 10, 3) := by decide +kernel
theorem d6 : decode yB 6 = .ok (.aload_n 0, 1) := by decide +kernel
theorem d7 : decode yB 7 = .ok (.getfield 15, 3) := by decide +kernel
theorem d10 : decode yB 10 = .ok (.goto 4, 3) := by decide +kernel
theorem d14 : decode yB 14 = .ok (.ireturn, 1) := by decide +kernel
def site : List Cond := [.fieldLink "java/lang/String" 38 "java/lang/String" "COMPACT_STRINGS" "Z", .fieldLink "java/lang/String" 15 "java/lang/String" "coder" "B"]
def tab : Cond := tabOf yN yB 1 (some .byte) site
def P (x : Addr) (cd z : Int32) (args : Array Value) (s : State) : Prop := args = #[.ref x] ∧ Has x "java/lang/String" "coder" "B" (.int cd) s ∧ (cd = 0 ∨ cd = 1) ∧ StaticIs s "java/lang/String" "COMPACT_STRINGS" "Z" (.int z) ∧ ¬ z = 0
def E (cd : Int32) (r : Option Value) (s u : State) : Prop := XT.PureE (some (.int cd)) r s u
theorem law (l : Launch) (x : Addr) (cd z : Int32) : Law l yN 1 0 0 0 yB 1 (some .byte) site (P x cd z) (E cd) [] 0 0 := by
  refine Law.of_walk (plainFor_of_name (by decide +kernel)) (by decide +kernel) (by decide +kernel) (by decide) (fun _ _ h => by rw [h.1]; rfl) (fun _ U U' hal hh h => ⟨h.1, h.2.1.mv hal hh, h.2.2.1, h.2.2.2.1.there hal hh, h.2.2.2.2⟩) (fun r U U' V V' h1 hal h2 h => XT.PureE.mv r U U' V V' h1 hal h2 h) ?_
  intro p e s m args below meth c s₁ X0 hexec hbytes hml hret hlk hnm hown hh0 W hP
  obtain ⟨rfl, hx, hc, s1, hz⟩ := hP
  have c1 : Steps p.tables e below (s₁.setTop (entryFrame m #[.ref x] 1)) (s₁.setTop (mkF m 0 #[.val (.ref x)] [])) := entry rfl
  obtain ⟨T2, X2, q2, st2⟩ := X0.sget hexec hown (wk W (.fieldLink "java/lang/String" 38 "java/lang/String" "COMPACT_STRINGS" "Z")) s1 (fun _ _ h => by rw [hh0]; exact h) (g := (mkF m 0 #[.val (.ref x)] [])) rfl (hb hbytes d0)
  have hh2 := q2.trans hh0
  have c3 : Steps p.tables e below (s₁.setTop (entryFrame m #[.ref x] 1)) (T2.setTop (mkF m 7 #[.val (.ref x)] [.ref x])) := (c1.trans (st2 _ (Steps.refl _))).trans (by
    refine XS.ifNo X2.here hexec rfl (hb hbytes d3) rfl (i0_eq_f hz) ?_
    refine XS.aloadN X2.here hexec rfl (hb hbytes d6) rfl rfl ?_
    exact Steps.refl _)
  obtain ⟨T4, X4, q4, st4⟩ := X2.hget hexec hown (wk W (.fieldLink "java/lang/String" 15 "java/lang/String" "coder" "B")) (hx.mv X2.warmed.alike hh2) (g := (mkF m 7 #[.val (.ref x)] [.ref x])) rfl (rest := []) rfl (hb hbytes d7)
  have c5 : Steps p.tables e below (s₁.setTop (entryFrame m #[.ref x] 1)) (T4.setTop (mkF m 14 #[.val (.ref x)] [.int cd])) := (c3.trans (st4 _ (Steps.refl _))).trans (by
    refine XS.goto X4.here hexec rfl (pc0 := 10) rfl (hb hbytes d10) (by decide) rfl ?_
    exact Steps.refl _)
  exact ⟨T4, some (.int cd), _, _, _, X4, rfl, rfl, rfl, (fun h => by cases h), ⟨rfl, q4.trans hh2⟩, fun fs hl => c5.trans (X4.ireturnOut hexec hret (by rcases hc with rfl | rfl <;> rfl) (Or.inr (Or.inr (Or.inl rfl))) (hb hbytes d14) hl)⟩
end Cdr
namespace Len
def yN : MethodName := ⟨"java/lang/String", "length", "()I"⟩
abbrev yB : ByteArray := jdk_42_method_54_code
theorem d0 : decode yB 0 = .ok (.aload_n 0, 1) := by decide +kernel
theorem d1 : decode yB 1 = .ok (.getfield 9, 3) := by decide +kernel
theorem d4 : decode yB 4 = .ok (.arraylength, 1) := by decide +kernel
theorem d5 : decode yB 5 = .ok (.aload_n 0, 1) := by decide +kernel
theorem d6 : decode yB 6 = .ok (.invokevirtual 335, 3) := by decide +kernel
theorem d9 : decode yB 9 = .ok (.ishr, 1) := by decide +kernel
theorem d10 : decode yB 10 = .ok (.ireturn, 1) := by decide +kernel
def site : List Cond := [.fieldLink "java/lang/String" 9 "java/lang/String" "value" "[B", Cdr.tab] ++ virtW "java/lang/String" 335 "java/lang/String" Cdr.yN Cdr.yN
def tab : Cond := tabOf yN yB 1 (some .int) site
def P (x t : Addr) (V : Cell) (cd : Int32) (n : Nat) (f : Nat → Int32) (z : Int32) (args : Array Value) (s : State) : Prop := args = #[.ref x] ∧ Txt x t V cd n f s ∧ StaticIs s "java/lang/String" "COMPACT_STRINGS" "Z" (.int z) ∧ ¬ z = 0
def E (n : Nat) (r : Option Value) (s u : State) : Prop := XT.PureE (some (.int (Int32.ofNat n))) r s u
/-- length() of a String of n chars, in either coding -/
theorem law (l : Launch) (x t : Addr) (V : Cell) (cd : Int32) (n : Nat) (f : Nat → Int32) (z : Int32) : Law l yN 1 0 1 13 yB 1 (some .int) site (P x t V cd n f z) (E n) [] 0 0 := by
  refine Law.of_walk (plainFor_of_name (by decide +kernel)) (by decide +kernel) (by decide +kernel) (by decide) (fun _ _ h => by rw [h.1]; rfl) (fun _ U U' hal hh h => ⟨h.1, h.2.1.mv hal hh, h.2.2.1.there hal hh, h.2.2.2⟩) (fun r U U' V V' h1 hal h2 h => XT.PureE.mv r U U' V V' h1 hal h2 h) ?_
  intro p e s m args below meth c s₁ X0 hexec hbytes hml hret hlk hnm hown hh0 W hP
  obtain ⟨rfl, hx, s1, hz⟩ := hP
  have v31 := hx.2.2.2.1.2.2.2
  have c1 : Steps p.tables e below (s₁.setTop (entryFrame m #[.ref x] 1)) (s₁.setTop (mkF m 1 #[.val (.ref x)] [.ref x])) := Steps.trans (entry rfl) (by
    show Steps p.tables e below (s₁.setTop (mkF m 0 #[.val (.ref x)] [])) _
    refine XS.aloadN X0.here hexec rfl (hb hbytes d0) rfl rfl ?_
    exact Steps.refl _)
  obtain ⟨T2, X2, q2, st2⟩ := X0.hget hexec hown (wk W (.fieldLink "java/lang/String" 9 "java/lang/String" "value" "[B")) (hx.mv X0.warmed.alike hh0).2.1 (g := (mkF m 1 #[.val (.ref x)] [.ref x])) rfl (rest := []) rfl (hb hbytes d1)
  have hh2 := q2.trans hh0
  have hx2 := hx.mv X2.warmed.alike hh2
  have c3 : Steps p.tables e below (s₁.setTop (entryFrame m #[.ref x] 1)) (T2.setTop (mkF m 6 #[.val (.ref x)] [.ref x, .int (Int32.ofNat V.slots.size)])) := (c1.trans (st2 _ (Steps.refl _))).trans (by
    refine X2.alen hexec hx2.2.2.2.1 rfl rfl (hb hbytes d4) ?_
    refine XS.aloadN X2.here hexec rfl (hb hbytes d5) rfl rfl ?_
    exact Steps.refl _)
  obtain ⟨v4, T4, X4, E4, g4⟩ := X2.callV hexec (Cdr.law l x cd z) hown (wks W (virtW "java/lang/String" 335 "java/lang/String" Cdr.yN Cdr.yN)) rfl (by decide) (wk W Cdr.tab) (W := 1) (Nat.le_of_ble_eq_true rfl) (Nat.le_of_ble_eq_true rfl) (Nat.le_refl _) (Nat.le_refl _) (hx2.1.fc X2.warmed.alike) hx2.1.is (g := (mkF m 6 #[.val (.ref x)] [.ref x, .int (Int32.ofNat V.slots.size)])) rfl (by rw [hml]; rfl) c3 (argsL := []) (rest := [.int (Int32.ofNat V.slots.size)]) rfl rfl (by show 2 * 0 + (1 + 0) ≤ _; decide) (hb hbytes d6) (⟨rfl, hx2.2.2.1, hx.2.2.2.2.1.cd, s1.there X2.warmed.alike hh2, hz⟩)
  obtain ⟨rfl, q4⟩ := E4
  have c5 : Steps p.tables e below (s₁.setTop (entryFrame m #[.ref x] 1)) (T4.setTop (mkF m 10 #[.val (.ref x)] [.int (Int32.ofNat V.slots.size >>> (cd &&& 31))])) := Steps.trans g4 (by
    refine ishr X4.here hexec rfl (hb hbytes d9) rfl ?_
    exact Steps.refl _)
  rw [hx.2.2.2.2.1.len v31] at c5
  exact ⟨T4, some (.int (Int32.ofNat n)), _, _, _, X4, rfl, rfl, rfl, (fun h => by cases h), ⟨rfl, q4.trans hh2⟩, fun fs hl => c5.trans (X4.ireturnOut hexec hret rfl (Or.inl rfl) (hb hbytes d10) hl)⟩
theorem pays {l : Launch} {R : Room} {p : Program} {e : Env} {below : List Frame} {s : State} {sargs : Array Value} {len W : Nat} (x t : Addr) (V : Cell) (cd : Int32) (n : Nat) (f : Nat → Int32) (z : Int32) (htab : tab.before sargs s = true) (hfr : 2 ≤ R.frames) (hlo : W + 25 ≤ R.locals) :
    Back l R p e below s sargs yN len W (fun A₁ a₁ => A₁.cells + 0 ≤ R.cells ∧ A₁.slots + 0 ≤ R.slots ∧ P x t V cd n f z a₁ A₁.U) (fun A₁ _ v₁ B₁ => E n v₁ A₁.U B₁.U ∧ B₁.locs = A₁.locs ++ [] ∧ B₁.cells = A₁.cells + 0 ∧ B₁.slots = A₁.slots + 0) :=
  (law l x t V cd n f z).pays htab hfr (by omega)
end Len
end StrChars
namespace StrChars.Road
open Jvm Sem ClassFile Op Lib Jvm.Stand Jvm.Free Jvm.Free.XT
open Jvm.Lib.Cold (StaticIs)
theorem consq {a : Array Value} {s : State} {c : Jvm.Cond} {L : List Jvm.Cond} (h0 : c.before a s = true) (h : ∀ w ∈ L, w.before a s = true) : ∀ w ∈ c :: L, w.before a s = true := fun w hw => (List.mem_cons.mp hw).elim (fun e => e ▸ h0) (h w)
/-- the words of String.length(), either coding -/
abbrev wordsLen : List Jvm.Cond := [.code Len.yN Len.yB 1 (some .int), .initialized ST, .fieldLink ST 9 ST "value" "[B", .fieldLink ST 38 ST "COMPACT_STRINGS" "Z", .fieldLink ST 15 ST "coder" "B", .code Cdr.yN Cdr.yB 1 (some .byte), .methodLink ST 335 Cdr.yN, .declares Cdr.yN, .selects ST Cdr.yN Cdr.yN, .instanceMethod Cdr.yN]
theorem tabLen_of {a : Array Value} {s : State} (h : ∀ w ∈ wordsLen, w.before a s = true) : Len.tab.before a s = true := by
  have hc : Cdr.tab.before a s = true := unparts (wk h (.code Cdr.yN Cdr.yB 1 (some .byte))) (wks h (.initialized Cdr.yN.cls :: Cdr.site))
  have q := consq hc h
  exact unparts (wk q (.code Len.yN Len.yB 1 (some .int))) (wks q (.initialized Len.yN.cls :: Len.site))
theorem movedLen {Z s : State} {a0 args : Array Value} (hZ : Z.Warmed39 s.vm) (hw : ∀ d ∈ wordsLen, d.before a0 Z = true) : ∀ d ∈ wordsLen, d.before args s = true := fun d hd => by
  have q := hw d hd
  have t : ∀ d ∈ wordsLen, d = .arrayClass .byte ∨ (d.onTables && d.keepsFace) = true := by decide +kernel
  rcases t d hd with rfl | t
  · exact RoadKit.mvA hZ q
  · exact RoadKit.mv hZ q t
/-- the bytes of the chars cs, low before high -/
def wideBytes : List Int32 → List Value
  | [] => []
  | c :: cs => .int (lo8 c) :: .int (hi8 c) :: wideBytes cs
theorem wide_lo (d : Value) : ∀ (cs : List Int32) (j : Nat), j < cs.length → (wideBytes cs).getD (2 * j) d = .int (lo8 (cs.getD j 0))
  | [], j, h => absurd h (Nat.not_lt_zero j)
  | c :: cs, 0, _ => rfl
  | c :: cs, j + 1, h => by
    have q := wide_lo d cs j (by simpa using h)
    rw [show 2 * (j + 1) = 2 * j + 1 + 1 from by omega]
    simpa [wideBytes] using q
theorem wide_hi (d : Value) : ∀ (cs : List Int32) (j : Nat), j < cs.length → (wideBytes cs).getD (2 * j + 1) d = .int (hi8 (cs.getD j 0))
  | [], j, h => absurd h (Nat.not_lt_zero j)
  | c :: cs, 0, _ => rfl
  | c :: cs, j + 1, h => by
    have q := wide_hi d cs j (by simpa using h)
    rw [show 2 * (j + 1) + 1 = 2 * j + 1 + 1 + 1 from by omega]
    simpa [wideBytes] using q
theorem low_at (d : Value) (cs : List Int32) (j : Nat) (h : j < cs.length) : (cs.map fun c => Value.int (lo8 c)).getD j d = .int (lo8 (cs.getD j 0)) := by
  simp [List.getD_eq_getElem?_getD, h]
/-- an array of N2 bytes vs codes the chars cs by the coder cd -/
def CodA (cs : List Int32) (cd N2 : Int32) (vs : List Value) : Prop := (cd = 0 ∧ N2 = Int32.ofNat cs.length ∧ vs = (cs.map fun c => Value.int (lo8 c)) ∧ ∀ c ∈ cs, ¬ 255 < c) ∨ (cd = 1 ∧ N2 = Int32.ofNat (2 * cs.length) ∧ vs = wideBytes cs ∧ ∃ c ∈ cs, 255 < c)
theorem CodA.cod {cs : List Int32} {cd N2 : Int32} {vs : List Value} {V : Cell} (h : CodA cs cd N2 vs) (hn : 2 * cs.length < 2 ^ 31) (hs : V.slots.size = N2.toNatClampNeg) (hv : RoadKit.Has V vs (.int 0)) : Cod cd cs.length (fun j => cs.getD j 0) V := by
  rcases h with ⟨rfl, rfl, rfl, h⟩ | ⟨rfl, rfl, rfl, c, hc, hw⟩
  · rw [n32 (by omega)] at hs
    exact Or.inl ⟨rfl, hs, fun j hj => ⟨by rw [hv j (by omega), low_at _ _ _ hj], by
      have e : cs.getD j 0 = cs[j] := by simp [List.getD_eq_getElem?_getD, hj]
      show ¬ 255 < cs.getD j 0
      rw [e]; exact h _ (List.getElem_mem _)⟩⟩
  · rw [n32 (by omega)] at hs
    obtain ⟨j, hj, rfl⟩ := List.getElem_of_mem hc
    exact Or.inr ⟨rfl, hs, fun j hj => ⟨by rw [hv _ (by omega), wide_lo _ _ _ hj], by rw [hv _ (by omega), wide_hi _ _ _ hj]⟩, j, hj, by
      have e : cs.getD j 0 = cs[j] := by simp [List.getD_eq_getElem?_getD, hj]
      show 255 < cs.getD j 0
      rw [e]; exact hw⟩
/-- an object of exactly java/lang/String, its two fields found: as the laws ask it -/
theorem strObj {Z U : State} {a0 : Array Value} {kI : Nat} (wi : (Jvm.Cond.instantiable ST kI).before a0 Z = true) (al : Z.vm.Alike U.vm) {x : Addr} {v0 c0 : Value} (E : RoadKit.Exa Z U.heap x ST) (V : RoadKit.Fld Z U.heap x ST "value" "[B" v0) (C : RoadKit.Fld Z U.heap x ST "coder" "B" c0) :
    ∃ (D : Cell) (fV fC : Field), Blank ST x D U ∧ Found ST "value" "[B" fV U ∧ Found ST "coder" "B" fC U ∧ D.slots[fV.slot]? = some v0 ∧ D.slots[fC.slot]? = some c0 ∧ RoadKit.slotOf Z ST "value" "[B" = fV.slot ∧ RoadKit.slotOf Z ST "coder" "B" = fC.slot := by
  obtain ⟨D, cfV, kV, iV, fV, hD, gV, stV, knV, obV, asV, slV⟩ := V
  obtain ⟨D', cfC, kC, iC, fC, hD', gC, stC, -, -, asC, slC⟩ := C
  cases hD.symm.trans hD'
  obtain ⟨D2, kD, e1, e2, e3, e4, e5⟩ := E
  cases hD.symm.trans e1
  obtain ⟨c2, k2, i1, i2, i3, -⟩ := Cond.instantiable_spec wi
  cases e2.symm.trans i1
  cases e3.symm.trans i2
  obtain ⟨kU, u1, u2⟩ := al.2.2 _ _ e3
  exact ⟨D, fV, fC, ⟨hD, ⟨knV, fun q hq => by rw [hq] at obV; cases obV⟩, by rw [al.findClass]; exact e2, kU, u1, by rw [u2]; exact i3, by rw [u2]; exact e5 i3⟩, ⟨SBG.found_only al ⟨cfV, kV, iV, gV⟩, stV⟩, ⟨SBG.found_only al ⟨cfC, kC, iC, gC⟩, stC⟩, slV, slC, by simp [RoadKit.slotOf, gV], by simp [RoadKit.slotOf, gC]⟩
theorem sta_is {Z U : State} (al : Z.vm.Alike U.vm) {C n d : String} {v : Value} (S : RoadKit.Sta Z U.heap C n d v) : StaticIs U C n d v := by
  obtain ⟨cfS, iS, kS, fS, st, cS, t1, t2, t3, t4, t5, t6, t7⟩ := S
  exact StaticIs.there (s := { Z with heap := U.heap }) ⟨cfS, iS, kS, fS, st, cS, t1, t2, t3, t4, t5, (fun q => by rw [q] at t6; cases t6), t7⟩ al rfl
/-- **length() OF SUCH A STRING** -/
theorem lenW {p : Program} {l : Launch} {e : Env} {R : Room} {s : State} {args : Array Value} {below : List Frame} {len W : Nat} {Z : State} {a0 : Array Value} {h : Heap} (hZ : Z.Warmed39 s.vm) (hw : ∀ d ∈ wordsLen, d.before a0 Z = true) {kI : Nat} (wi : (Jvm.Cond.instantiable ST kI).before a0 Z = true)
    {x t : Addr} {kb : ClassId} {cs : List Int32} {cd N2 z : Int32} {vs : List Value} (E : RoadKit.Exa Z h x ST) (V : RoadKit.Fld Z h x ST "value" "[B" (.ref t)) (C : RoadKit.Fld Z h x ST "coder" "B" (.int cd)) (K : RoadKit.Arv Z h t kb .byte N2 vs (.int 0)) (hc : CodA cs cd N2 vs) (hb : ∀ c ∈ cs, ¬ c < 0 ∧ ¬ (65535 : Int32) < c)
    (S : RoadKit.Sta Z h ST "COMPACT_STRINGS" "Z" (.int z)) (hz : ¬ z = 0) (l2 : cs.length ≤ 4000) (hfr : 2 ≤ R.frames) (hlo : W + 25 ≤ R.locals) :
    Back l R p e below s args (⟨"java/lang/String", "length", "()I"⟩ : MethodName) len W (fun P a => a = #[.ref x] ∧ P.U.heap = h ∧ P.cells + 0 ≤ R.cells ∧ P.slots + 0 ≤ R.slots)
      (fun P _ v B => ∃ L, (v = some (.int (Int32.ofNat cs.length)) ∧ L = [] ∧ B.U.heap = h) ∧ B.locs = P.locs ++ L ∧ B.cells = P.cells + 0 ∧ B.slots = P.slots + 0) := by
  obtain ⟨A, K1, K2, K3, K4, K5, K6⟩ := K
  have hcod := hc.cod (by omega) K3 K5
  intro m meth c P g ig mk a X hg hsize hdg hW hn hp'
  obtain ⟨rfl, rfl, r1, r2⟩ := hp'
  have al : Z.vm.Alike P.U.vm := hZ.alike.trans X.warmed.alike
  obtain ⟨D, fV, fC, hB, F1, F2, g1, g2, -, -⟩ := strObj wi al E V C
  have hx : Txt x t A cd cs.length (fun j => cs.getD j 0) P.U := ⟨⟨_, hB.2.2.1, D, hB.1, rfl, by cases q : D.vm <;> first | rfl | exact absurd q (hB.2.1.2 _)⟩, Has.of hB F1 g1, Has.of hB F2 g2, ⟨K1.1, State.isArrayOf_alike al K1.2.1, K1.2.2, by rcases hcod with ⟨-, q, -⟩ | ⟨-, q, -⟩ <;> omega⟩, hcod, fun j hj => by
    have e : cs.getD j 0 = cs[j] := by simp [List.getD_eq_getElem?_getD, hj]
    show ¬ cs.getD j 0 < 0 ∧ ¬ 65535 < cs.getD j 0
    rw [e]; exact hb _ (List.getElem_mem _)⟩
  obtain ⟨v, B, X', ⟨⟨hv, hh⟩, hl, hk, hs⟩, st⟩ := Len.pays x t A cd cs.length (fun j => cs.getD j 0) z (tabLen_of (movedLen hZ hw)) hfr hlo m meth c P g ig mk _ X hg hsize hdg hW hn ⟨r1, r2, rfl, hx, sta_is al S, hz⟩
  exact ⟨v, B, X', ⟨[], ⟨hv, rfl, hh⟩, hl, hk, hs⟩, st⟩
end StrChars.Road
namespace StrChars
open Jvm Sem ClassFile Op Lib Jvm.Stand Jvm.Free.XT Jvm.Free.ALB Jvm.Free.JM Jvm.Free
open Jvm.Lib.Cold (StaticIs)
/-- what place i of a byte[]'s cell holds -/
def yv (A : Cell) (i : Nat) : Int32 := match A.slots[i]? with | some (.int x) => x | _ => 0
theorem yv_get {a : Addr} {A : Cell} {U : State} (h : XT.Arr .byte a A U) (ht : Typed .byte A) {i : Nat} (hi : i < A.slots.size) : A.slots[i]? = some (.int (yv A i)) := by
  have e := Array.getElem?_eq_getElem hi
  have f := ht i _ e
  unfold yv; rw [e]
  generalize A.slots[i] = v at f
  cases v <;> simp [fits] at f ⊢
/-- the two arrays are equal, place for place -/
def EqC (A B : Cell) : Prop := A.slots.size = B.slots.size ∧ ∀ i, i < A.slots.size → yv A i = yv B i
/-- a boolean that says whether p -/
def Says01 (q : Prop) (r : Option Value) (s u : State) : Prop := ∃ v : Int32, r = some (.int v) ∧ u.heap = s.heap ∧ ((v = 1 ∧ q) ∨ (v = 0 ∧ ¬ q))
theorem Says01.mv {q : Prop} : ∀ r (U U' V V' : State), U'.heap = U.heap → V.vm.Alike V'.vm → V'.heap = V.heap → Says01 q r U V → Says01 q r U' V' :=
  fun r U U' V V' h1 _ h2 ⟨v, a, b, c⟩ => ⟨v, a, by rw [h1, h2]; exact b, c⟩
namespace LEq
def yN : MethodName := ⟨"java/lang/StringLatin1", "equals", "([B[B)Z"⟩
abbrev yB : ByteArray := jdk_43_method_13_code
theorem d0 : decode yB 0 = .ok (.aload_n 0, 1) := by decide +kernel
theorem d1 : decode yB 1 = .ok (.arraylength, 1) := by decide +kernel
theorem d2 : decode yB 2 = .ok (.aload_n 1, 1) := by decide +kernel
theorem d3 : decode yB 3 = .ok (.arraylength, 1) := by decide +kernel
theorem d4 : decode yB 4 = .ok (.if_icmp (.ne) 30, 3) := by decide +kernel
theorem d7 : decode yB 7 = .ok (.iconst 0, 1) := by decide +kernel
theorem d8 : decode yB 8 = .ok (.istore_n 2, 1) := by decide +kernel
theorem d9 : decode yB 9 = .ok (.iload_n 2, 1) := by decide +kernel
theorem d10 : decode yB 10 = .ok (.aload_n 0, 1) := by decide +kernel
theorem d11 : decode yB 11 = .ok (.arraylength, 1) := by decide +kernel
theorem d12 : decode yB 12 = .ok (.if_icmp (.ge) 20, 3) := by decide +kernel
theorem d15 : decode yB 15 = .ok (.aload_n 0, 1) := by decide +kernel
theorem d16 : decode yB 16 = .ok (.iload_n 2, 1) := by decide +kernel
theorem d17 : decode yB 17 = .ok (.baload, 1) := by decide +kernel
theorem d18 : decode yB 18 = .ok (.aload_n 1, 1) := by decide +kernel
theorem d19 : decode yB 19 = .ok (.iload_n 2, 1) := by decide +kernel
theorem d20 : decode yB 20 = .ok (.baload, 1) := by decide +kernel
theorem d21 : decode yB 21 = .ok (.if_icmp (.eq) 5, 3) := by decide +kernel
theorem d24 : decode yB 24 = .ok (.iconst 0, 1) := by decide +kernel
theorem d25 : decode yB 25 = .ok (.ireturn, 1) := by decide +kernel
theorem d26 : decode yB 26 = .ok (.iinc 2 1, 3) := by decide +kernel
theorem d29 : decode yB 29 = .ok (.goto (-20), 3) := by decide +kernel
theorem d32 : decode yB 32 = .ok (.iconst 1, 1) := by decide +kernel
theorem d33 : decode yB 33 = .ok (.ireturn, 1) := by decide +kernel
theorem d34 : decode yB 34 = .ok (.iconst 0, 1) := by decide +kernel
theorem d35 : decode yB 35 = .ok (.ireturn, 1) := by decide +kernel
def site : List Cond := []
def tab : Cond := tabOf yN yB 3 (some .boolean) site
def P (a : Addr) (A : Cell) (b : Addr) (B : Cell) (args : Array Value) (s : State) : Prop := args = #[.ref a, .ref b] ∧ XT.Arr .byte a A s ∧ Typed .byte A ∧ XT.Arr .byte b B s ∧ Typed .byte B
/-- whether two byte[] are equal, place for place -/
theorem law (l : Launch) (a : Addr) (A : Cell) (b : Addr) (B : Cell) : Law l yN 2 2 0 0 yB 3 (some .boolean) site (P a A b B) (Says01 (EqC A B)) [] 0 0 := by
  refine Law.of_walk (plainFor_of_name (by decide +kernel)) (by decide +kernel) (by decide +kernel) (by decide) (fun _ _ h => by rw [h.1]; rfl) (fun _ U U' hal hh h => ⟨h.1, h.2.1.mv hal hh, h.2.2.1, h.2.2.2.1.mv hal hh, h.2.2.2.2⟩) (fun r U U' V V' h1 hal h2 h => Says01.mv r U U' V V' h1 hal h2 h) ?_
  intro p e s m args below meth c s₁ X0 hexec hbytes hml hret hlk hnm hown hh0 W hP
  obtain ⟨rfl, hA, tA, hB, tB⟩ := hP
  have a31 := hA.2.2.2
  have b31 := hB.2.2.2
  have hA0 := hA.mv X0.warmed.alike hh0
  have hB0 := hB.mv X0.warmed.alike hh0
  have c1 : Steps p.tables e below (s₁.setTop (entryFrame m #[.ref a, .ref b] 3)) (s₁.setTop (mkF m 0 #[.val (.ref a), .val (.ref b), .unset] [])) := entry rfl
  have c2 : Steps p.tables e below (s₁.setTop (entryFrame m #[.ref a, .ref b] 3)) (s₁.setTop (mkF m 4 #[.val (.ref a), .val (.ref b), .unset] [.int (Int32.ofNat B.slots.size), .int (Int32.ofNat A.slots.size)])) := c1.trans (by
    refine XS.aloadN X0.here hexec rfl (hb hbytes d0) rfl rfl ?_
    refine X0.alen hexec hA0 rfl rfl (hb hbytes d1) ?_
    refine XS.aloadN X0.here hexec rfl (hb hbytes d2) rfl rfl ?_
    refine X0.alen hexec hB0 rfl rfl (hb hbytes d3) ?_
    exact Steps.refl _)
  by_cases hs : A.slots.size = B.slots.size
  · have c3 : Steps p.tables e below (s₁.setTop (entryFrame m #[.ref a, .ref b] 3)) (s₁.setTop (mkF m 9 #[.val (.ref a), .val (.ref b), .val (.int 0)] [])) := c2.trans (by
      refine XS.icmpNo X0.here hexec rfl (hb hbytes d4) rfl (ii_ne_f (by rw [hs])) ?_
      refine iconstV X0.here hexec rfl 0 (hb hbytes d7) (by decide) ?_
      refine XS.istoreN X0.here hexec rfl (hb hbytes d8) rfl rfl ?_
      exact Steps.refl _)
    have loop : ∀ (r i : Nat), i + r = A.slots.size → (∀ j, j < i → yv A j = yv B j) → Steps p.tables e below (s₁.setTop (entryFrame m #[.ref a, .ref b] 3)) (s₁.setTop (mkF m 9 #[.val (.ref a), .val (.ref b), .val (.int (Int32.ofNat i))] [])) → ∃ (pc : Nat) (Ls : Array Slot) (v : Int32), (pc = 25 ∨ pc = 33) ∧ ((v = 1 ∧ EqC A B) ∨ (v = 0 ∧ ¬ EqC A B)) ∧ Steps p.tables e below (s₁.setTop (entryFrame m #[.ref a, .ref b] 3)) (s₁.setTop (mkF m pc Ls [.int v])) := by
      intro r
      induction r with
      | zero =>
        intro i hi he cl
        exact ⟨33, _, 1, Or.inr rfl, Or.inl ⟨rfl, hs, fun j hj => he j (by omega)⟩, cl.trans (by
          refine XS.iloadN X0.here hexec rfl (hb hbytes d9) rfl ?_
          refine XS.aloadN X0.here hexec rfl (hb hbytes d10) rfl rfl ?_
          refine X0.alen hexec hA0 rfl rfl (hb hbytes d11) ?_
          refine XS.icmpYes X0.here hexec rfl (pc0 := 12) rfl (hb hbytes d12) rfl (ii_ge_t (nlt32 (by omega) (by omega))) (by decide) rfl ?_
          refine iconstV X0.here hexec rfl 1 (hb hbytes d32) (by decide) ?_
          exact Steps.refl _)⟩
      | succ r ih =>
        intro i hi he cl
        have c4 : Steps p.tables e below (s₁.setTop (entryFrame m #[.ref a, .ref b] 3)) (s₁.setTop (mkF m 21 #[.val (.ref a), .val (.ref b), .val (.int (Int32.ofNat i))] [.int (yv B i), .int (yv A i)])) := cl.trans (by
          refine XS.iloadN X0.here hexec rfl (hb hbytes d9) rfl ?_
          refine XS.aloadN X0.here hexec rfl (hb hbytes d10) rfl rfl ?_
          refine X0.alen hexec hA0 rfl rfl (hb hbytes d11) ?_
          refine XS.icmpNo X0.here hexec rfl (hb hbytes d12) rfl (ii_ge_f (lt32 (by omega) (by omega))) ?_
          refine XS.aloadN X0.here hexec rfl (hb hbytes d15) rfl rfl ?_
          refine XS.iloadN X0.here hexec rfl (hb hbytes d16) rfl ?_
          refine X0.aget hexec hA0 rfl (yv_get hA tA (i := i) (by omega)) rfl rfl (hb hbytes d17) ?_
          refine XS.aloadN X0.here hexec rfl (hb hbytes d18) rfl rfl ?_
          refine XS.iloadN X0.here hexec rfl (hb hbytes d19) rfl ?_
          refine X0.aget hexec hB0 rfl (yv_get hB tB (i := i) (by omega)) rfl rfl (hb hbytes d20) ?_
          exact Steps.refl _)
        by_cases hv : yv A i = yv B i
        · have c5 : Steps p.tables e below (s₁.setTop (entryFrame m #[.ref a, .ref b] 3)) (s₁.setTop (mkF m 9 #[.val (.ref a), .val (.ref b), .val (.int (Int32.ofNat i + 1))] [])) := c4.trans (by
            refine XS.icmpYes X0.here hexec rfl (pc0 := 21) rfl (hb hbytes d21) rfl (ii_eq_t hv) (by decide) rfl ?_
            refine iincV X0.here hexec rfl 1 (hb hbytes d26) (by decide) rfl rfl ?_
            refine XS.goto X0.here hexec rfl (pc0 := 29) rfl (hb hbytes d29) (by decide) rfl ?_
            exact Steps.refl _)
          rw [succ32] at c5
          exact ih (i + 1) (by omega) (fun j hj => by
            by_cases e : j = i
            · rw [e]; exact hv
            · exact he j (by omega)) c5
        · exact ⟨25, _, 0, Or.inl rfl, Or.inr ⟨rfl, fun q => hv (q.2 i (by omega))⟩, c4.trans (by
            refine XS.icmpNo X0.here hexec rfl (hb hbytes d21) rfl (ii_eq_f hv) ?_
            refine iconstV X0.here hexec rfl 0 (hb hbytes d24) (by decide) ?_
            exact Steps.refl _)⟩
    obtain ⟨pc, Ls, v, hpc, hv, cz⟩ := loop A.slots.size 0 (by omega) (fun j hj => absurd hj (Nat.not_lt_zero j)) c3
    have nv : narrow .boolean (.int v) = .int v := by rcases hv with ⟨rfl, -⟩ | ⟨rfl, -⟩ <;> rfl
    rcases hpc with rfl | rfl
    · exact ⟨s₁, some (.int v), _, _, _, X0, rfl, rfl, rfl, (fun h => by cases h), ⟨v, rfl, hh0, hv⟩, fun fs hl => cz.trans (X0.ireturnOut hexec hret nv (Or.inr (Or.inl rfl)) (hb hbytes d25) hl)⟩
    · exact ⟨s₁, some (.int v), _, _, _, X0, rfl, rfl, rfl, (fun h => by cases h), ⟨v, rfl, hh0, hv⟩, fun fs hl => cz.trans (X0.ireturnOut hexec hret nv (Or.inr (Or.inl rfl)) (hb hbytes d33) hl)⟩
  · have c3 : Steps p.tables e below (s₁.setTop (entryFrame m #[.ref a, .ref b] 3)) (s₁.setTop (mkF m 35 #[.val (.ref a), .val (.ref b), .unset] [.int 0])) := c2.trans (by
      refine XS.icmpYes X0.here hexec rfl (pc0 := 4) rfl (hb hbytes d4) rfl (ii_ne_t (ne32 a31 b31 hs)) (by decide) rfl ?_
      refine iconstV X0.here hexec rfl 0 (hb hbytes d34) (by decide) ?_
      exact Steps.refl _)
    exact ⟨s₁, some (.int 0), _, _, _, X0, rfl, rfl, rfl, (fun h => by cases h), ⟨0, rfl, hh0, Or.inr ⟨rfl, fun q => hs q.1⟩⟩, fun fs hl => c3.trans (X0.ireturnOut hexec hret rfl (Or.inr (Or.inl rfl)) (hb hbytes d35) hl)⟩
end LEq
theorem Cod.ty {cd : Int32} {n : Nat} {f : Nat → Int32} {V : Cell} (h : Cod cd n f V) : Typed .byte V := fun i v hv => by
  have hi : i < V.slots.size := (Array.getElem?_eq_some_iff.mp hv).1
  rcases h with ⟨-, k1, k2⟩ | ⟨-, k1, k2, -⟩
  · rw [(k2 i (by omega)).1] at hv; cases hv; exact fits_lo8 _
  · rcases Nat.mod_two_eq_zero_or_one i with e | e
    · obtain ⟨j, rfl⟩ : ∃ j, i = 2 * j := ⟨i / 2, by omega⟩
      rw [(k2 j (by omega)).1] at hv; cases hv; exact fits_lo8 _
    · obtain ⟨j, rfl⟩ : ∃ j, i = 2 * j + 1 := ⟨i / 2, by omega⟩
      rw [(k2 j (by omega)).2] at hv; cases hv; exact fits_lo8 _
/-- the same text -/
def SameT (n : Nat) (f : Nat → Int32) (k : Nat) (g : Nat → Int32) : Prop := n = k ∧ ∀ j, j < n → f j = g j
theorem lo8_inj {x y : Int32} (h0 : ¬ x < 0) (h1 : ¬ 255 < x) (k0 : ¬ y < 0) (k1 : ¬ 255 < y) (h : lo8 x = lo8 y) : x = y := by
  rw [← lo8_mask h0 h1, ← lo8_mask k0 k1, h]
/-- arrays coded by one coder are equal just where the texts are -/
theorem Cod.eqv {cd : Int32} {n k : Nat} {f g : Nat → Int32} {V V' : Cell} (h : Cod cd n f V) (h' : Cod cd k g V') (hf : ∀ j, j < n → ¬ f j < 0 ∧ ¬ 65535 < f j) (hg : ∀ j, j < k → ¬ g j < 0 ∧ ¬ 65535 < g j) : EqC V V' ↔ SameT n f k g := by
  have yvv : ∀ {W : Cell} {i : Nat} {x : Int32}, W.slots[i]? = some (.int x) → yv W i = x := fun q => by unfold yv; rw [q]
  rcases h with ⟨rfl, k1, k2⟩ | ⟨rfl, k1, k2, -⟩
  · rcases h' with ⟨-, m1, m2⟩ | ⟨e, -⟩
    · constructor
      · rintro ⟨e1, e2⟩
        refine ⟨by omega, fun j hj => ?_⟩
        have q := e2 j (by omega)
        rw [yvv (k2 j hj).1, yvv (m2 j (by omega)).1] at q
        exact lo8_inj (hf j hj).1 (k2 j hj).2 (hg j (by omega)).1 (m2 j (by omega)).2 q
      · rintro ⟨rfl, e2⟩
        refine ⟨by omega, fun j hj => ?_⟩
        rw [yvv (k2 j (by omega)).1, yvv (m2 j (by omega)).1, e2 j (by omega)]
    · exact absurd e (by decide)
  · rcases h' with ⟨e, -⟩ | ⟨-, m1, m2, -⟩
    · exact absurd e (by decide)
    · constructor
      · rintro ⟨e1, e2⟩
        refine ⟨by omega, fun j hj => ?_⟩
        have q1 := e2 (2 * j) (by omega)
        have q2 := e2 (2 * j + 1) (by omega)
        rw [yvv (k2 j hj).1, yvv (m2 j (by omega)).1] at q1
        rw [yvv (k2 j hj).2, yvv (m2 j (by omega)).2] at q2
        rw [← pair_says (hf j hj).1 (hf j hj).2, ← pair_says (hg j (by omega)).1 (hg j (by omega)).2, q1, q2]
      · rintro ⟨rfl, e2⟩
        refine ⟨by omega, fun i hi => ?_⟩
        rcases Nat.mod_two_eq_zero_or_one i with e | e
        · obtain ⟨j, rfl⟩ : ∃ j, i = 2 * j := ⟨i / 2, by omega⟩
          rw [yvv (k2 j (by omega)).1, yvv (m2 j (by omega)).1, e2 j (by omega)]
        · obtain ⟨j, rfl⟩ : ∃ j, i = 2 * j + 1 := ⟨i / 2, by omega⟩
          rw [yvv (k2 j (by omega)).2, yvv (m2 j (by omega)).2, e2 j (by omega)]
/-- two codings differ: so do the texts -/
theorem Cod.dif {cd cd' : Int32} {n k : Nat} {f g : Nat → Int32} {V V' : Cell} (h : Cod cd n f V) (h' : Cod cd' k g V') (hne : ¬ cd = cd') : ¬ SameT n f k g := by
  rintro ⟨rfl, e⟩
  rcases h with ⟨rfl, -, k2⟩ | ⟨rfl, -, -, j, hj, hw⟩
  · rcases h' with ⟨rfl, -⟩ | ⟨-, -, -, j, hj, hw⟩
    · exact hne rfl
    · exact (k2 j hj).2 (by rw [e j hj]; exact hw)
  · rcases h' with ⟨-, -, m2⟩ | ⟨rfl, -⟩
    · exact (m2 j hj).2 (by rw [← e j hj]; exact hw)
    · exact hne rfl
/-- an object of exactly C is an instance of C -/
theorem cinst {p : Program} {l : Launch} {e : Env} {R : Room} {s : State} {m : MethodId} {args : Array Value} {below : List Frame} {meth : Method} {c : Code} {T : State} {locs : List Loc} {cells slots : Nat} (X : Stand p l e R s m args below meth c T locs cells slots) (hexec : p.tables.exec = Jvm.exec) {own C : String} {index : Nat} (hown : s.vm.findClass own = some m.cls) (hlink : (Cond.classLink own index C).before args s = true) {a : Addr} (hE : Exact C a T)
    {g : JFrame} (hg : g.method = m) {rest : List Value} (hstack : g.stack = .ref a :: rest) (hdg : decode c.code g.pc = .ok (.instanceof index, 3)) :
    ∃ T', Stand p l e R s m args below meth c T' locs cells slots ∧ T'.heap = T.heap ∧ ∀ target, Steps p.tables e below (T'.setTop { g with pc := g.pc + 3, stack := .int 1 :: rest }) target → Steps p.tables e below (T.setTop g) target := by
  obtain ⟨cB, h1, D, h2, h3, h4⟩ := hE
  have h1' : s.vm.findClass C = some cB := by rw [← X.warmed.alike.findClass]; exact h1
  obtain ⟨vm', X', st⟩ := X.instanceofYes hexec hown hlink h2 h4 h1' (by rw [h3]; exact Jvm.Free.SB.assignable_self _ _) hg hstack hdg
  exact ⟨_, X', rfl, st⟩
theorem cself {p : Program} {l : Launch} {e : Env} {R : Room} {s : State} {m : MethodId} {args : Array Value} {below : List Frame} {meth : Method} {c : Code} {T : State} {locs : List Loc} {cells slots : Nat} (X : Stand p l e R s m args below meth c T locs cells slots) (hexec : p.tables.exec = Jvm.exec) {own C : String} {index : Nat} (hown : s.vm.findClass own = some m.cls) (hlink : (Cond.classLink own index C).before args s = true) {a : Addr} (hE : Exact C a T)
    {g : JFrame} (hg : g.method = m) {rest : List Value} (hstack : g.stack = .ref a :: rest) (hdg : decode c.code g.pc = .ok (.checkcast index, 3)) :
    ∃ T', Stand p l e R s m args below meth c T' locs cells slots ∧ T'.heap = T.heap ∧ ∀ target, Steps p.tables e below (T'.setTop { g with pc := g.pc + 3, stack := .ref a :: rest }) target → Steps p.tables e below (T.setTop g) target := by
  obtain ⟨cB, h1, D, h2, h3, h4⟩ := hE
  have h1' : s.vm.findClass C = some cB := by rw [← X.warmed.alike.findClass]; exact h1
  obtain ⟨vm', X', st⟩ := X.checkcastYes hexec hown hlink h2 h4 h1' (by rw [h3]; exact Jvm.Free.SB.assignable_self _ _) hg hstack hdg
  exact ⟨_, X', rfl, fun t h => st t (by rw [← hstack] at h; exact h)⟩
namespace SEq
def yN : MethodName := ⟨"java/lang/String", "equals", "(Ljava/lang/Object;)Z"⟩
abbrev yB : ByteArray := jdk_42_method_66_code
theorem d0 : decode yB 0 = .ok (.aload_n 0, 1) := by decide +kernel
theorem d1 : decode yB 1 = .ok (.aload_n 1, 1) := by decide +kernel
theorem d2 : decode yB 2 = .ok (.if_acmp (.ne) 5, 3) := by decide +kernel
theorem d5 : decode yB 5 = .ok (.iconst 1, 1) := by decide +kernel
theorem d6 : decode yB 6 = .ok (.ireturn, 1) := by decide +kernel
theorem d7 : decode yB 7 = .ok (.aload_n 1, 1) := by decide +kernel
theorem d8 : decode yB 8 = .ok (.instanceof 10, 3) := by decide +kernel
theorem d11 : decode yB 11 = .ok (.ifCond (.eq) 43, 3) := by decide +kernel
theorem d14 : decode yB 14 = .ok (.aload_n 1, 1) := by decide +kernel
theorem d15 : decode yB 15 = .ok (.checkcast 10, 3) := by decide +kernel
theorem d18 : decode yB 18 = .ok (.astore_n 2, 1) := by decide +kernel
theorem d19 : decode yB 19 = .ok (.getstatic 38, 3) := by decide +kernel
theorem d22 : decode yB 22 = .ok (.ifCond (.eq) 14, 3) := by decide +kernel
theorem d25 : decode yB 25 = .ok (.aload_n 0, 1) := by decide +kernel
theorem d26 : decode yB 26 = .ok (.getfield 15, 3) := by decide +kernel
theorem d29 : decode yB 29 = .ok (.aload_n 2, 1) := by decide +kernel
theorem d30 : decode yB 30 = .ok (.getfield 15, 3) := by decide +kernel
theorem d33 : decode yB 33 = .ok (.if_icmp (.ne) 21, 3) := by decide +kernel
theorem d36 : decode yB 36 = .ok (.aload_n 0, 1) := by decide +kernel
theorem d37 : decode yB 37 = .ok (.getfield 9, 3) := by decide +kernel
theorem d40 : decode yB 40 = .ok (.aload_n 2, 1) := by decide +kernel
theorem d41 : decode yB 41 = .ok (.getfield 9, 3) := by decide +kernel
theorem d44 : decode yB 44 = .ok (.invokestatic 541, 3) := by decide +kernel
theorem d47 : decode yB 47 = .ok (.ifCond (.eq) 7, 3) := by decide +kernel
theorem d50 : decode yB 50 = .ok (.iconst 1, 1) := by decide +kernel
theorem d51 : decode yB 51 = .ok (.goto 4, 3) := by decide +kernel
theorem d54 : decode yB 54 = .ok (.iconst 0, 1) := by decide +kernel
theorem d55 : decode yB 55 = .ok (.ireturn, 1) := by decide +kernel
def site : List Cond := [.classLink "java/lang/String" 10 "java/lang/String", .fieldLink "java/lang/String" 38 "java/lang/String" "COMPACT_STRINGS" "Z", .fieldLink "java/lang/String" 15 "java/lang/String" "coder" "B", .fieldLink "java/lang/String" 9 "java/lang/String" "value" "[B", LEq.tab] ++ staticW "java/lang/String" 541 LEq.yN
def tab : Cond := tabOf yN yB 3 (some .boolean) site
def P (x t : Addr) (V : Cell) (cd : Int32) (n : Nat) (f : Nat → Int32) (y t' : Addr) (V' : Cell) (cd' : Int32) (k : Nat) (g : Nat → Int32) (z : Int32) (args : Array Value) (s : State) : Prop := args = #[.ref x, .ref y] ∧ Txt x t V cd n f s ∧ Txt y t' V' cd' k g s ∧ StaticIs s "java/lang/String" "COMPACT_STRINGS" "Z" (.int z) ∧ ¬ z = 0
/-- equals(Object) of two Strings: whether the texts are the same -/
theorem law (l : Launch) (x t : Addr) (V : Cell) (cd : Int32) (n : Nat) (f : Nat → Int32) (y t' : Addr) (V' : Cell) (cd' : Int32) (k : Nat) (g : Nat → Int32) (z : Int32) : Law l yN 2 1 1 14 yB 3 (some .boolean) site (P x t V cd n f y t' V' cd' k g z) (Says01 (SameT n f k g)) [] 0 0 := by
  refine Law.of_walk (plainFor_of_name (by decide +kernel)) (by decide +kernel) (by decide +kernel) (by decide) (fun _ _ h => by rw [h.1]; rfl) (fun _ U U' hal hh h => ⟨h.1, h.2.1.mv hal hh, h.2.2.1.mv hal hh, h.2.2.2.1.there hal hh, h.2.2.2.2⟩) (fun r U U' V V' h1 hal h2 h => Says01.mv r U U' V V' h1 hal h2 h) ?_
  intro p e s m args below meth c s₁ X0 hexec hbytes hml hret hlk hnm hown hh0 W hP
  obtain ⟨rfl, hx, hy, s1, hz⟩ := hP
  have c1 : Steps p.tables e below (s₁.setTop (entryFrame m #[.ref x, .ref y] 3)) (s₁.setTop (mkF m 2 #[.val (.ref x), .val (.ref y), .unset] [.ref y, .ref x])) := Steps.trans (entry rfl) (by
    show Steps p.tables e below (s₁.setTop (mkF m 0 #[.val (.ref x), .val (.ref y), .unset] [])) _
    refine XS.aloadN X0.here hexec rfl (hb hbytes d0) rfl rfl ?_
    refine XS.aloadN X0.here hexec rfl (hb hbytes d1) rfl rfl ?_
    exact Steps.refl _)
  by_cases hxy : x = y
  · have c2 : Steps p.tables e below (s₁.setTop (entryFrame m #[.ref x, .ref y] 3)) (s₁.setTop (mkF m 6 #[.val (.ref x), .val (.ref y), .unset] [.int 1])) := c1.trans (by
      refine acmpNo X0.here hexec rfl (hb hbytes d2) rfl rfl rfl (by simp [acmp, hxy]) ?_
      refine iconstV X0.here hexec rfl 1 (hb hbytes d5) (by decide) ?_
      exact Steps.refl _)
    subst hxy
    have ec : cd = cd' := by
      obtain ⟨D, fd, a1, a2, a3⟩ := hx.2.2.1
      obtain ⟨D', fd', b1, b2, b3⟩ := hy.2.2.1
      cases a1.symm.trans b1
      obtain ⟨q1, q2, q3, q4⟩ := a2.1
      obtain ⟨r1, r2, r3, r4⟩ := b2.1
      cases q4.symm.trans r4
      cases a3.symm.trans b3; rfl
    have et : t = t' := by
      obtain ⟨D, fd, a1, a2, a3⟩ := hx.2.1
      obtain ⟨D', fd', b1, b2, b3⟩ := hy.2.1
      cases a1.symm.trans b1
      obtain ⟨q1, q2, q3, q4⟩ := a2.1
      obtain ⟨r1, r2, r3, r4⟩ := b2.1
      cases q4.symm.trans r4
      cases a3.symm.trans b3; rfl
    subst ec et
    have ev : V = V' := by cases hx.2.2.2.1.1.symm.trans hy.2.2.2.1.1; rfl
    subst ev
    have hs : SameT n f k g := (Cod.eqv hx.2.2.2.2.1 hy.2.2.2.2.1 hx.2.2.2.2.2 hy.2.2.2.2.2).mp ⟨rfl, fun _ _ => rfl⟩
    exact ⟨s₁, some (.int 1), _, _, _, X0, rfl, rfl, rfl, (fun h => by cases h), ⟨1, rfl, hh0, Or.inl ⟨rfl, hs⟩⟩, fun fs hl => c2.trans (X0.ireturnOut hexec hret rfl (Or.inr (Or.inl rfl)) (hb hbytes d6) hl)⟩
  · have c2 : Steps p.tables e below (s₁.setTop (entryFrame m #[.ref x, .ref y] 3)) (s₁.setTop (mkF m 8 #[.val (.ref x), .val (.ref y), .unset] [.ref y])) := c1.trans (by
      refine acmpYes X0.here hexec rfl (pc0 := 2) rfl (hb hbytes d2) rfl rfl rfl (by simp [acmp, hxy]) (by decide) rfl ?_
      refine XS.aloadN X0.here hexec rfl (hb hbytes d7) rfl rfl ?_
      exact Steps.refl _)
    obtain ⟨T3, X3, q3, st3⟩ := cinst X0 hexec hown (wk W (.classLink "java/lang/String" 10 "java/lang/String")) (hy.mv X0.warmed.alike hh0).1 (g := (mkF m 8 #[.val (.ref x), .val (.ref y), .unset] [.ref y])) rfl (rest := []) rfl (hb hbytes d8)
    have hh3 := q3.trans hh0
    have c4 : Steps p.tables e below (s₁.setTop (entryFrame m #[.ref x, .ref y] 3)) (T3.setTop (mkF m 15 #[.val (.ref x), .val (.ref y), .unset] [.ref y])) := (c2.trans (st3 _ (Steps.refl _))).trans (by
      refine XS.ifNo X3.here hexec rfl (hb hbytes d11) rfl (i0_eq_f (by decide)) ?_
      refine XS.aloadN X3.here hexec rfl (hb hbytes d14) rfl rfl ?_
      exact Steps.refl _)
    obtain ⟨T5, X5, q5, st5⟩ := cself X3 hexec hown (wk W (.classLink "java/lang/String" 10 "java/lang/String")) (hy.mv X3.warmed.alike hh3).1 (g := (mkF m 15 #[.val (.ref x), .val (.ref y), .unset] [.ref y])) rfl (rest := []) rfl (hb hbytes d15)
    have hh5 := q5.trans hh3
    have c6 : Steps p.tables e below (s₁.setTop (entryFrame m #[.ref x, .ref y] 3)) (T5.setTop (mkF m 19 #[.val (.ref x), .val (.ref y), .val (.ref y)] [])) := (c4.trans (st5 _ (Steps.refl _))).trans (by
      refine XS.astoreN X5.here hexec rfl (hb hbytes d18) rfl rfl rfl ?_
      exact Steps.refl _)
    obtain ⟨T7, X7, q7, st7⟩ := X5.sget hexec hown (wk W (.fieldLink "java/lang/String" 38 "java/lang/String" "COMPACT_STRINGS" "Z")) s1 (fun _ _ h => by rw [hh5]; exact h) (g := (mkF m 19 #[.val (.ref x), .val (.ref y), .val (.ref y)] [])) rfl (hb hbytes d19)
    have hh7 := q7.trans hh5
    have c8 : Steps p.tables e below (s₁.setTop (entryFrame m #[.ref x, .ref y] 3)) (T7.setTop (mkF m 26 #[.val (.ref x), .val (.ref y), .val (.ref y)] [.ref x])) := (c6.trans (st7 _ (Steps.refl _))).trans (by
      refine XS.ifNo X7.here hexec rfl (hb hbytes d22) rfl (i0_eq_f hz) ?_
      refine XS.aloadN X7.here hexec rfl (hb hbytes d25) rfl rfl ?_
      exact Steps.refl _)
    obtain ⟨T9, X9, q9, st9⟩ := X7.hget hexec hown (wk W (.fieldLink "java/lang/String" 15 "java/lang/String" "coder" "B")) (hx.mv X7.warmed.alike hh7).2.2.1 (g := (mkF m 26 #[.val (.ref x), .val (.ref y), .val (.ref y)] [.ref x])) rfl (rest := []) rfl (hb hbytes d26)
    have hh9 := q9.trans hh7
    have c10 : Steps p.tables e below (s₁.setTop (entryFrame m #[.ref x, .ref y] 3)) (T9.setTop (mkF m 30 #[.val (.ref x), .val (.ref y), .val (.ref y)] [.ref y, .int cd])) := (c8.trans (st9 _ (Steps.refl _))).trans (by
      refine XS.aloadN X9.here hexec rfl (hb hbytes d29) rfl rfl ?_
      exact Steps.refl _)
    obtain ⟨T11, X11, q11, st11⟩ := X9.hget hexec hown (wk W (.fieldLink "java/lang/String" 15 "java/lang/String" "coder" "B")) (hy.mv X9.warmed.alike hh9).2.2.1 (g := (mkF m 30 #[.val (.ref x), .val (.ref y), .val (.ref y)] [.ref y, .int cd])) rfl (rest := [.int cd]) rfl (hb hbytes d30)
    have hh11 := q11.trans hh9
    have c12 : Steps p.tables e below (s₁.setTop (entryFrame m #[.ref x, .ref y] 3)) (T11.setTop (mkF m 33 #[.val (.ref x), .val (.ref y), .val (.ref y)] [.int cd', .int cd])) := c10.trans (st11 _ (Steps.refl _))
    by_cases hcd : cd = cd'
    · subst hcd
      have c13 : Steps p.tables e below (s₁.setTop (entryFrame m #[.ref x, .ref y] 3)) (T11.setTop (mkF m 37 #[.val (.ref x), .val (.ref y), .val (.ref y)] [.ref x])) := c12.trans (by
        refine XS.icmpNo X11.here hexec rfl (hb hbytes d33) rfl (ii_ne_f rfl) ?_
        refine XS.aloadN X11.here hexec rfl (hb hbytes d36) rfl rfl ?_
        exact Steps.refl _)
      obtain ⟨T14, X14, q14, st14⟩ := X11.hget hexec hown (wk W (.fieldLink "java/lang/String" 9 "java/lang/String" "value" "[B")) (hx.mv X11.warmed.alike hh11).2.1 (g := (mkF m 37 #[.val (.ref x), .val (.ref y), .val (.ref y)] [.ref x])) rfl (rest := []) rfl (hb hbytes d37)
      have hh14 := q14.trans hh11
      have c15 : Steps p.tables e below (s₁.setTop (entryFrame m #[.ref x, .ref y] 3)) (T14.setTop (mkF m 41 #[.val (.ref x), .val (.ref y), .val (.ref y)] [.ref y, .ref t])) := (c13.trans (st14 _ (Steps.refl _))).trans (by
        refine XS.aloadN X14.here hexec rfl (hb hbytes d40) rfl rfl ?_
        exact Steps.refl _)
      obtain ⟨T16, X16, q16, st16⟩ := X14.hget hexec hown (wk W (.fieldLink "java/lang/String" 9 "java/lang/String" "value" "[B")) (hy.mv X14.warmed.alike hh14).2.1 (g := (mkF m 41 #[.val (.ref x), .val (.ref y), .val (.ref y)] [.ref y, .ref t])) rfl (rest := [.ref t]) rfl (hb hbytes d41)
      have hh16 := q16.trans hh14
      have c17 : Steps p.tables e below (s₁.setTop (entryFrame m #[.ref x, .ref y] 3)) (T16.setTop (mkF m 44 #[.val (.ref x), .val (.ref y), .val (.ref y)] [.ref t', .ref t])) := c15.trans (st16 _ (Steps.refl _))
      obtain ⟨v18, T18, X18, E18, g18⟩ := X16.callS hexec (LEq.law l t V t' V') hown (wks W (staticW "java/lang/String" 541 LEq.yN)) (wk W LEq.tab) (W := 0) (Nat.le_of_ble_eq_true rfl) (Nat.le_of_ble_eq_true rfl) (Nat.le_refl _) (Nat.le_refl _) (g := (mkF m 44 #[.val (.ref x), .val (.ref y), .val (.ref y)] [.ref t', .ref t])) rfl (by rw [hml]; rfl) c17 (argsL := [.ref t, .ref t']) (rest := []) rfl rfl (by show 2 * 0 + 0 ≤ _; decide) (hb hbytes d44) (⟨rfl, hx.2.2.2.1.mv X16.warmed.alike hh16, hx.2.2.2.2.1.ty, hy.2.2.2.1.mv X16.warmed.alike hh16, hy.2.2.2.2.1.ty⟩)
      obtain ⟨v, rfl, q18, hv⟩ := E18
      have iff := Cod.eqv hx.2.2.2.2.1 hy.2.2.2.2.1 hx.2.2.2.2.2 hy.2.2.2.2.2
      rcases hv with ⟨rfl, he⟩ | ⟨rfl, he⟩
      · have c19 : Steps p.tables e below (s₁.setTop (entryFrame m #[.ref x, .ref y] 3)) (T18.setTop (mkF m 55 #[.val (.ref x), .val (.ref y), .val (.ref y)] [.int 1])) := Steps.trans g18 (by
          refine XS.ifNo X18.here hexec rfl (hb hbytes d47) rfl (i0_eq_f (by decide)) ?_
          refine iconstV X18.here hexec rfl 1 (hb hbytes d50) (by decide) ?_
          refine XS.goto X18.here hexec rfl (pc0 := 51) rfl (hb hbytes d51) (by decide) rfl ?_
          exact Steps.refl _)
        exact ⟨T18, some (.int 1), _, _, _, X18, rfl, rfl, rfl, (fun h => by cases h), ⟨1, rfl, q18.trans hh16, Or.inl ⟨rfl, iff.mp he⟩⟩, fun fs hl => c19.trans (X18.ireturnOut hexec hret rfl (Or.inr (Or.inl rfl)) (hb hbytes d55) hl)⟩
      · have c19 : Steps p.tables e below (s₁.setTop (entryFrame m #[.ref x, .ref y] 3)) (T18.setTop (mkF m 55 #[.val (.ref x), .val (.ref y), .val (.ref y)] [.int 0])) := Steps.trans g18 (by
          refine XS.ifYes X18.here hexec rfl (pc0 := 47) rfl (hb hbytes d47) rfl (i0_eq_t rfl) (by decide) rfl ?_
          refine iconstV X18.here hexec rfl 0 (hb hbytes d54) (by decide) ?_
          exact Steps.refl _)
        exact ⟨T18, some (.int 0), _, _, _, X18, rfl, rfl, rfl, (fun h => by cases h), ⟨0, rfl, q18.trans hh16, Or.inr ⟨rfl, fun q => he (iff.mpr q)⟩⟩, fun fs hl => c19.trans (X18.ireturnOut hexec hret rfl (Or.inr (Or.inl rfl)) (hb hbytes d55) hl)⟩
    · have c13 : Steps p.tables e below (s₁.setTop (entryFrame m #[.ref x, .ref y] 3)) (T11.setTop (mkF m 55 #[.val (.ref x), .val (.ref y), .val (.ref y)] [.int 0])) := c12.trans (by
        refine XS.icmpYes X11.here hexec rfl (pc0 := 33) rfl (hb hbytes d33) rfl (ii_ne_t hcd) (by decide) rfl ?_
        refine iconstV X11.here hexec rfl 0 (hb hbytes d54) (by decide) ?_
        exact Steps.refl _)
      exact ⟨T11, some (.int 0), _, _, _, X11, rfl, rfl, rfl, (fun h => by cases h), ⟨0, rfl, hh11, Or.inr ⟨rfl, Cod.dif hx.2.2.2.2.1 hy.2.2.2.2.1 hcd⟩⟩, fun fs hl => c13.trans (X11.ireturnOut hexec hret rfl (Or.inr (Or.inl rfl)) (hb hbytes d55) hl)⟩
theorem pays {l : Launch} {R : Room} {p : Program} {e : Env} {below : List Frame} {s : State} {sargs : Array Value} {len W : Nat} (x t : Addr) (V : Cell) (cd : Int32) (n : Nat) (f : Nat → Int32) (y t' : Addr) (V' : Cell) (cd' : Int32) (k : Nat) (g : Nat → Int32) (z : Int32) (htab : tab.before sargs s = true) (hfr : 2 ≤ R.frames) (hlo : W + 28 ≤ R.locals) :
    Back l R p e below s sargs yN len W (fun A₁ a₁ => A₁.cells + 0 ≤ R.cells ∧ A₁.slots + 0 ≤ R.slots ∧ P x t V cd n f y t' V' cd' k g z a₁ A₁.U) (fun A₁ _ v₁ B₁ => Says01 (SameT n f k g) v₁ A₁.U B₁.U ∧ B₁.locs = A₁.locs ++ [] ∧ B₁.cells = A₁.cells + 0 ∧ B₁.slots = A₁.slots + 0) :=
  (law l x t V cd n f y t' V' cd' k g z).pays htab hfr (by omega)
end SEq
end StrChars
namespace StrChars.Road
open Jvm Sem ClassFile Op Lib Jvm.Stand Jvm.Free Jvm.Free.XT
open Jvm.Lib.Cold (StaticIs)
/-- the words of String.equals(Object) -/
abbrev wordsEq : List Jvm.Cond := [.code SEq.yN SEq.yB 3 (some .boolean), .initialized ST, .classLink ST 10 ST, .fieldLink ST 38 ST "COMPACT_STRINGS" "Z", .fieldLink ST 15 ST "coder" "B", .fieldLink ST 9 ST "value" "[B", .methodLink ST 541 LEq.yN, .static LEq.yN, .code LEq.yN LEq.yB 3 (some .boolean), .initialized "java/lang/StringLatin1"]
theorem tabEq_of {a : Array Value} {s : State} (h : ∀ w ∈ wordsEq, w.before a s = true) : SEq.tab.before a s = true := by
  have hl : LEq.tab.before a s = true := unparts (wk h (.code LEq.yN LEq.yB 3 (some .boolean))) (wks h (.initialized LEq.yN.cls :: LEq.site))
  have q := consq hl h
  exact unparts (wk q (.code SEq.yN SEq.yB 3 (some .boolean))) (wks q (.initialized SEq.yN.cls :: SEq.site))
theorem movedEq {Z s : State} {a0 args : Array Value} (hZ : Z.Warmed39 s.vm) (hw : ∀ d ∈ wordsEq, d.before a0 Z = true) : ∀ d ∈ wordsEq, d.before args s = true := fun d hd => by
  have t : ∀ d ∈ wordsEq, (d.onTables && d.keepsFace) = true := by decide +kernel
  exact RoadKit.mv hZ (hw d hd) (t d hd)
/-- the road's facts of a String, as the laws ask it -/
theorem txt_of {Z U : State} {a0 : Array Value} {kI : Nat} (wi : (Jvm.Cond.instantiable ST kI).before a0 Z = true) (al : Z.vm.Alike U.vm) {x t : Addr} {kb : ClassId} {cs : List Int32} {cd N2 : Int32} {vs : List Value} (E : RoadKit.Exa Z U.heap x ST) (V : RoadKit.Fld Z U.heap x ST "value" "[B" (.ref t)) (C : RoadKit.Fld Z U.heap x ST "coder" "B" (.int cd)) (K : RoadKit.Arv Z U.heap t kb .byte N2 vs (.int 0)) (hc : CodA cs cd N2 vs) (hb : ∀ c ∈ cs, ¬ c < 0 ∧ ¬ (65535 : Int32) < c) (l2 : cs.length ≤ 4000) :
    ∃ A, Txt x t A cd cs.length (fun j => cs.getD j 0) U := by
  obtain ⟨A, K1, K2, K3, K4, K5, K6⟩ := K
  have hcod := hc.cod (by omega) K3 K5
  obtain ⟨D, fV, fC, hB, F1, F2, g1, g2, -, -⟩ := strObj wi al E V C
  exact ⟨A, ⟨_, hB.2.2.1, D, hB.1, rfl, by cases q : D.vm <;> first | rfl | exact absurd q (hB.2.1.2 _)⟩, Has.of hB F1 g1, Has.of hB F2 g2, ⟨K1.1, State.isArrayOf_alike al K1.2.1, K1.2.2, by rcases hcod with ⟨-, q, -⟩ | ⟨-, q, -⟩ <;> omega⟩, hcod, fun j hj => by
    have e : cs.getD j 0 = cs[j] := by simp [List.getD_eq_getElem?_getD, hj]
    show ¬ cs.getD j 0 < 0 ∧ ¬ 65535 < cs.getD j 0
    rw [e]; exact hb _ (List.getElem_mem _)⟩
theorem same_list (cs ds : List Int32) : SameT cs.length (fun j => cs.getD j 0) ds.length (fun j => ds.getD j 0) ↔ cs = ds := by
  constructor
  · rintro ⟨e, q⟩
    refine List.ext_getElem e fun j h1 h2 => ?_
    have := q j h1
    simpa [List.getD_eq_getElem?_getD, h1, h2] using this
  · rintro rfl
    exact ⟨rfl, fun _ _ => rfl⟩
/-- **equals(Object) OF TWO SUCH STRINGS**: 1 just where the chars are the same -/
theorem eqW {p : Program} {l : Launch} {e : Env} {R : Room} {s : State} {args : Array Value} {below : List Frame} {len W : Nat} {Z : State} {a0 : Array Value} {h : Heap} (hZ : Z.Warmed39 s.vm) (hw : ∀ d ∈ wordsEq, d.before a0 Z = true) {kI : Nat} (wi : (Jvm.Cond.instantiable ST kI).before a0 Z = true)
    {x t : Addr} {kb : ClassId} {cs : List Int32} {cd N2 : Int32} {vs : List Value} (E : RoadKit.Exa Z h x ST) (V : RoadKit.Fld Z h x ST "value" "[B" (.ref t)) (C : RoadKit.Fld Z h x ST "coder" "B" (.int cd)) (K : RoadKit.Arv Z h t kb .byte N2 vs (.int 0)) (hc : CodA cs cd N2 vs) (hb : ∀ c ∈ cs, ¬ c < 0 ∧ ¬ (65535 : Int32) < c) (l2 : cs.length ≤ 4000)
    {y t' : Addr} {kb' : ClassId} {ds : List Int32} {cd' N2' : Int32} {vs' : List Value} (E' : RoadKit.Exa Z h y ST) (V' : RoadKit.Fld Z h y ST "value" "[B" (.ref t')) (C' : RoadKit.Fld Z h y ST "coder" "B" (.int cd')) (K' : RoadKit.Arv Z h t' kb' .byte N2' vs' (.int 0)) (hc' : CodA ds cd' N2' vs') (hb' : ∀ c ∈ ds, ¬ c < 0 ∧ ¬ (65535 : Int32) < c) (l2' : ds.length ≤ 4000)
    {z : Int32} (S : RoadKit.Sta Z h ST "COMPACT_STRINGS" "Z" (.int z)) (hz : ¬ z = 0) (hfr : 2 ≤ R.frames) (hlo : W + 28 ≤ R.locals) :
    Back l R p e below s args (⟨"java/lang/String", "equals", "(Ljava/lang/Object;)Z"⟩ : MethodName) len W (fun P a => a = #[.ref x, .ref y] ∧ P.U.heap = h ∧ P.cells + 0 ≤ R.cells ∧ P.slots + 0 ≤ R.slots)
      (fun P _ v B => ∃ L, (((v = some (.int 1) ∧ cs = ds) ∨ (v = some (.int 0) ∧ ¬ cs = ds)) ∧ L = [] ∧ B.U.heap = h) ∧ B.locs = P.locs ++ L ∧ B.cells = P.cells + 0 ∧ B.slots = P.slots + 0) := by
  intro m meth c P g ig mk a X hg hsize hdg hW hn hp'
  obtain ⟨rfl, rfl, r1, r2⟩ := hp'
  have al : Z.vm.Alike P.U.vm := hZ.alike.trans X.warmed.alike
  obtain ⟨A, hx⟩ := txt_of wi al E V C K hc hb l2
  obtain ⟨A', hy⟩ := txt_of wi al E' V' C' K' hc' hb' l2'
  obtain ⟨v, B, X', ⟨⟨w, hv, hh, hq⟩, hl, hk, hs⟩, st⟩ := SEq.pays x t A cd cs.length (fun j => cs.getD j 0) y t' A' cd' ds.length (fun j => ds.getD j 0) z (tabEq_of (movedEq hZ hw)) hfr hlo m meth c P g ig mk _ X hg hsize hdg hW hn ⟨r1, r2, rfl, hx, hy, sta_is al S, hz⟩
  refine ⟨v, B, X', ⟨[], ⟨?_, rfl, hh⟩, hl, hk, hs⟩, st⟩
  rcases hq with ⟨rfl, q⟩ | ⟨rfl, q⟩
  · exact Or.inl ⟨hv, (same_list cs ds).mp q⟩
  · exact Or.inr ⟨hv, fun e => q ((same_list cs ds).mpr e)⟩
end StrChars.Road
namespace StrChars.Road
open Jvm Sem ClassFile Op Lib Jvm.Stand Jvm.Free Jvm.Free.XT
open Jvm.Lib.Cold (StaticIs)
/-- what backV says of its String, as the contracts of this text ask it: cs's low bytes, coder 0 -/
theorem codOf {cs : List Int32} {n : Nat} (hn : cs.length = n) (hb : ∀ c ∈ cs, ¬ 255 < c) : CodA cs 0 (Int32.ofNat n) ((cs.map lo8).map Value.int) := Or.inl ⟨rfl, by rw [hn], by simp [List.map_map, Function.comp_def], hb⟩
end StrChars.Road
end Jvm.Pilot.@@N@@
namespace Jvm.Pilot.@@N@@
open Jvm Jvm.ClassFile Sem Op Lib Jvm.Free Jvm.Stand Jvm.LawKit Jvm.RoadKit Bundle Jvm.Pilot.@@N@@.Jvm.D
/-- a byte as a char: 0 to 255 -/
def own_B (x : Int32) : Prop := ∃ k : Fin 256, x = Int32.ofNat k.val
theorem own_B.lit (k : Fin 256) : own_B (Int32.ofNat k.val) := ⟨k, rfl⟩
theorem own_B.rng {x : Int32} (h : own_B x) : ¬ x < 0 ∧ ¬ (255 : Int32) < x := by
  obtain ⟨k, rfl⟩ := h
  have t : ∀ k : Fin 256, ¬ (Int32.ofNat k.val) < 0 ∧ ¬ (255 : Int32) < (Int32.ofNat k.val) := by decide +kernel
  exact t k
theorem own_B.rng2 {x : Int32} (h : own_B x) : ¬ x < 0 ∧ ¬ (65535 : Int32) < x := by
  obtain ⟨k, rfl⟩ := h
  have t : ∀ k : Fin 256, ¬ (Int32.ofNat k.val) < 0 ∧ ¬ (65535 : Int32) < (Int32.ofNat k.val) := by decide +kernel
  exact t k
theorem own_B.nar {x : Int32} (h : own_B x) : nar .char x = x := by
  obtain ⟨k, rfl⟩ := h
  have t : ∀ k : Fin 256, Jvm.RoadKit.nar .char (Int32.ofNat k.val) = Int32.ofNat k.val := by decide +kernel
  exact t k
theorem own_and255 (x : Int32) : own_B (x &&& (255 : Int32)) := by
  have h : (x &&& 255).toBitVec.toNat < 256 := by
    simp only [Int32.toBitVec_and, BitVec.toNat_and]
    exact Nat.lt_succ_of_le Nat.and_le_right
  refine ⟨⟨_, h⟩, ?_⟩
  apply Int32.toBitVec_inj.mp
  apply BitVec.eq_of_toNat_eq
  simp only [Int32.toBitVec_ofNat', BitVec.toNat_ofNat]
  rw [Nat.mod_eq_of_lt (Nat.lt_of_lt_of_le h (by decide))]
theorem own_i2c {x : Int32} (h : own_B x) : x.toUInt32.toUInt16.toUInt32.toInt32 = x := h.nar
theorem own_bI (x : Int32) : ∃ c : Int32, own_B c ∧ ((x &&& (255 : Int32)).toUInt32.toUInt16.toUInt32.toInt32) = c := ⟨_, by rw [own_i2c (own_and255 x)]; exact own_and255 x, rfl⟩
theorem own_ofInt {x : Int32} {n : Nat} (h : x.toInt = (n : Int)) : x = Int32.ofNat n := by
  have : x = Int32.ofInt x.toInt := (Int32.ofInt_toInt x).symm
  rw [this, h]; rfl
theorem own_bL (x : Int64) : ∃ c : Int32, own_B c ∧ (((x &&& (255 : Int64)).toInt32).toUInt32.toUInt16.toUInt32.toInt32) = c := by
  have h1 := c_maskL x 255 8 (by decide) rfl
  have h2 : 0 ≤ (x &&& 255).toInt := by rw [h1]; exact Int.emod_nonneg _ (by decide)
  have h3 : (x &&& 255).toInt < 256 := by rw [h1]; exact Int.emod_lt_of_pos _ (by decide)
  have h4 : ((x &&& 255).toInt32).toInt = ((x &&& 255).toInt.toNat : Int) := by
    rw [Int64.toInt_toInt32, Int.toNat_of_nonneg h2, Int.bmod_eq_of_le (by omega) (by omega)]
  have h5 := own_ofInt h4
  have hB : own_B ((x &&& (255 : Int64)).toInt32) := ⟨⟨(x &&& 255).toInt.toNat, by omega⟩, h5⟩
  exact ⟨_, by rw [own_i2c hB]; exact hB, rfl⟩
theorem own_rem (x : Int32) (d : Nat) (h0 : 0 < d) (hd : (Int32.ofNat d).toInt = (d : Int)) : ∃ j : Fin d, ((x &&& (2147483647 : Int32)) % (Int32.ofNat d)) = Int32.ofNat j.val := by
  have h1 := (c_and x 2147483647 (by decide)).1
  have h2 := (c_irem (x &&& 2147483647) (Int32.ofNat d) d hd).1 h1
  have h3 : 0 ≤ (x &&& 2147483647).toInt % (d : Int) := Int.emod_nonneg _ (by omega)
  have h4 : (x &&& 2147483647).toInt % (d : Int) < (d : Int) := Int.emod_lt_of_pos _ (by omega)
  refine ⟨⟨((x &&& 2147483647).toInt % (d : Int)).toNat, by omega⟩, own_ofInt ?_⟩
  rw [h2]; exact (Int.toNat_of_nonneg h3).symm
/-- a Bool as the machine's int -/
def own_i (b : Bool) : Int32 := if b then 1 else 0
theorem own_i0 (b : Bool) : own_i b = (0 : Int32) ↔ b = false := by cases b <;> decide
theorem own_iT {b : Bool} (h : b = true) : ¬ (own_i b = (0 : Int32)) := by subst h; decide
theorem own_iF {b : Bool} (h : b = false) : own_i b = (0 : Int32) := by subst h; rfl
theorem own_inar (b : Bool) : nar .boolean (own_i b) = own_i b := by cases b <;> decide
theorem own_getD (cs : List Int32) (n : Nat) : (cs.map Value.int).getD n (.int 0) = .int (cs.getD n 0) := by
  simp only [List.getD_eq_getElem?_getD, List.getElem?_map]
  cases cs[n]? <;> rfl
theorem own_lt32 {i n : Nat} (hi : i < 2147483648) (hn : n < 2147483648) : (Int32.ofNat i < Int32.ofNat n) ↔ i < n := by
  rw [Int32.lt_iff_toInt_lt, Int32.toInt_ofNat_of_lt hi, Int32.toInt_ofNat_of_lt hn]; omega
theorem own_succ (i : Nat) : Int32.ofNat i + (1 : Int32) = Int32.ofNat (i + 1) := by
  rw [Int32.ofNat_add]; rfl
theorem own_nil : ∀ c ∈ ([] : List Int32), own_B c := fun _ h => nomatch h
theorem own_cons {a : Int32} {l : List Int32} (h : own_B a) (t : ∀ c ∈ l, own_B c) : ∀ c ∈ a :: l, own_B c := fun c hc => (List.mem_cons.mp hc).elim (fun e => e ▸ h) (t c)
theorem own_Bl (k : Nat) (h : k < 256) : own_B (Int32.ofNat k) := ⟨⟨k, h⟩, rfl⟩
theorem own_rem5 (x : Int32) : ((x &&& (2147483647 : Int32)) % (5 : Int32)) = (0 : Int32) ∨ ((x &&& (2147483647 : Int32)) % (5 : Int32)) = (1 : Int32) ∨ ((x &&& (2147483647 : Int32)) % (5 : Int32)) = (2 : Int32) ∨ ((x &&& (2147483647 : Int32)) % (5 : Int32)) = (3 : Int32) ∨ ((x &&& (2147483647 : Int32)) % (5 : Int32)) = (4 : Int32) := by
  obtain ⟨j, hj⟩ := own_rem x 5 (by decide) (by decide)
  have e : ((x &&& (2147483647 : Int32)) % (5 : Int32)) = Int32.ofNat j.val := hj
  rw [e]
  have t : ∀ j : Fin 5, Int32.ofNat j.val = (0 : Int32) ∨ Int32.ofNat j.val = (1 : Int32) ∨ Int32.ofNat j.val = (2 : Int32) ∨ Int32.ofNat j.val = (3 : Int32) ∨ Int32.ofNat j.val = (4 : Int32) := by decide
  exact t j
def own_at (cs : List Int32) (n : Nat) : Int32 := cs.getD n 0
theorem own_strA : ∀ d ∈ Bundle.stringAtoms, d ∈ tables_1 := by decide +kernel
def EL : List (String × Nat) := consts_1
theorem own_wl {Z : State} {a0 : Array Value} (hw : ∀ d ∈ tables_1, d.before a0 Z = true) : ∀ d ∈ StrChars.Road.wordsLen, d.before a0 Z = true := fun d hd => hw d ((by decide +kernel : ∀ d ∈ StrChars.Road.wordsLen, d ∈ tables_1) d hd)
theorem own_wi {Z : State} {a0 : Array Value} (hw : ∀ d ∈ tables_1, d.before a0 Z = true) : ∀ d ∈ StrChars.Road.words, d.before a0 Z = true := fun d hd => hw d ((by decide +kernel : ∀ d ∈ StrChars.Road.words, d ∈ tables_1) d hd)
theorem own_we {Z : State} {a0 : Array Value} (hw : ∀ d ∈ tables_1, d.before a0 Z = true) : ∀ d ∈ StrChars.Road.wordsEq, d.before a0 Z = true := fun d hd => hw d ((by decide +kernel : ∀ d ∈ StrChars.Road.wordsEq, d ∈ tables_1) d hd)
theorem d1_0 : decode jdk_42_method_3_code 0 = .ok (.aload_n 0, 1) := by decide +kernel
theorem d1_1 : decode jdk_42_method_3_code 1 = .ok (.aload_n 1, 1) := by decide +kernel
theorem d1_2 : decode jdk_42_method_3_code 2 = .ok (.iconst 0, 1) := by decide +kernel
theorem d1_3 : decode jdk_42_method_3_code 3 = .ok (.aload_n 1, 1) := by decide +kernel
theorem d1_4 : decode jdk_42_method_3_code 4 = .ok (.arraylength, 1) := by decide +kernel
theorem d1_5 : decode jdk_42_method_3_code 5 = .ok (.aconst_null, 1) := by decide +kernel
theorem d1_6 : decode jdk_42_method_3_code 6 = .ok (.invokespecial 27, 3) := by decide +kernel
theorem d1_9 : decode jdk_42_method_3_code 9 = .ok (.return_, 1) := by decide +kernel
theorem d2_0 : decode jdk_42_method_149_code 0 = .ok (.aload_n 0, 1) := by decide +kernel
theorem d2_1 : decode jdk_42_method_149_code 1 = .ok (.invokespecial 1, 3) := by decide +kernel
theorem d2_4 : decode jdk_42_method_149_code 4 = .ok (.iload_n 3, 1) := by decide +kernel
theorem d2_5 : decode jdk_42_method_149_code 5 = .ok (.ifCond .ne 22, 3) := by decide +kernel
theorem d2_8 : decode jdk_42_method_149_code 8 = .ok (.aload_n 0, 1) := by decide +kernel
theorem d2_9 : decode jdk_42_method_149_code 9 = .ok (.ldc 7, 2) := by decide +kernel
theorem d2_11 : decode jdk_42_method_149_code 11 = .ok (.getfield 9, 3) := by decide +kernel
theorem d2_14 : decode jdk_42_method_149_code 14 = .ok (.putfield 9, 3) := by decide +kernel
theorem d2_17 : decode jdk_42_method_149_code 17 = .ok (.aload_n 0, 1) := by decide +kernel
theorem d2_18 : decode jdk_42_method_149_code 18 = .ok (.ldc 7, 2) := by decide +kernel
theorem d2_20 : decode jdk_42_method_149_code 20 = .ok (.getfield 15, 3) := by decide +kernel
theorem d2_23 : decode jdk_42_method_149_code 23 = .ok (.putfield 15, 3) := by decide +kernel
theorem d2_26 : decode jdk_42_method_149_code 26 = .ok (.return_, 1) := by decide +kernel
theorem d7_0 : decode prog_23_method_6_code 0 = .ok (.aload_n 0, 1) := by decide +kernel
theorem d7_1 : decode prog_23_method_6_code 1 = .ok (.ldc 108, 2) := by decide +kernel
theorem d7_3 : decode prog_23_method_6_code 3 = .ok (.invokevirtual 171, 3) := by decide +kernel
theorem d7_6 : decode prog_23_method_6_code 6 = .ok (.aload_n 0, 1) := by decide +kernel
theorem d7_7 : decode prog_23_method_6_code 7 = .ok (.invokevirtual 171, 3) := by decide +kernel
theorem d7_10 : decode prog_23_method_6_code 10 = .ok (.ldc 102, 2) := by decide +kernel
theorem d7_12 : decode prog_23_method_6_code 12 = .ok (.invokevirtual 171, 3) := by decide +kernel
theorem d7_15 : decode prog_23_method_6_code 15 = .ok (.isub, 1) := by decide +kernel
theorem d7_16 : decode prog_23_method_6_code 16 = .ok (.invokevirtual 175, 3) := by decide +kernel
theorem d7_19 : decode prog_23_method_6_code 19 = .ok (.areturn, 1) := by decide +kernel
theorem d10_0 : decode jdk_42_method_92_code 0 = .ok (.aload_n 0, 1) := by decide +kernel
theorem d10_1 : decode jdk_42_method_92_code 1 = .ok (.invokevirtual 505, 3) := by decide +kernel
theorem d10_4 : decode jdk_42_method_92_code 4 = .ok (.istore_n 3, 1) := by decide +kernel
theorem d10_5 : decode jdk_42_method_92_code 5 = .ok (.iload_n 1, 1) := by decide +kernel
theorem d10_6 : decode jdk_42_method_92_code 6 = .ok (.iload_n 2, 1) := by decide +kernel
theorem d10_7 : decode jdk_42_method_92_code 7 = .ok (.iload_n 3, 1) := by decide +kernel
theorem d10_8 : decode jdk_42_method_92_code 8 = .ok (.invokestatic 521, 3) := by decide +kernel
theorem d10_11 : decode jdk_42_method_92_code 11 = .ok (.iload_n 1, 1) := by decide +kernel
theorem d10_12 : decode jdk_42_method_92_code 12 = .ok (.ifCond .ne 10, 3) := by decide +kernel
theorem d10_22 : decode jdk_42_method_92_code 22 = .ok (.iload_n 2, 1) := by decide +kernel
theorem d10_23 : decode jdk_42_method_92_code 23 = .ok (.iload_n 1, 1) := by decide +kernel
theorem d10_24 : decode jdk_42_method_92_code 24 = .ok (.isub, 1) := by decide +kernel
theorem d10_25 : decode jdk_42_method_92_code 25 = .ok (.istore 4, 2) := by decide +kernel
theorem d10_27 : decode jdk_42_method_92_code 27 = .ok (.aload_n 0, 1) := by decide +kernel
theorem d10_28 : decode jdk_42_method_92_code 28 = .ok (.invokevirtual 492, 3) := by decide +kernel
theorem d10_31 : decode jdk_42_method_92_code 31 = .ok (.ifCond .eq 16, 3) := by decide +kernel
theorem d10_34 : decode jdk_42_method_92_code 34 = .ok (.aload_n 0, 1) := by decide +kernel
theorem d10_35 : decode jdk_42_method_92_code 35 = .ok (.getfield 9, 3) := by decide +kernel
theorem d10_38 : decode jdk_42_method_92_code 38 = .ok (.iload_n 1, 1) := by decide +kernel
theorem d10_39 : decode jdk_42_method_92_code 39 = .ok (.iload 4, 2) := by decide +kernel
theorem d10_41 : decode jdk_42_method_92_code 41 = .ok (.invokestatic 685, 3) := by decide +kernel
theorem d10_44 : decode jdk_42_method_92_code 44 = .ok (.goto 13, 3) := by decide +kernel
theorem d10_57 : decode jdk_42_method_92_code 57 = .ok (.areturn, 1) := by decide +kernel
theorem d11_0 : decode jdk_42_method_158_code 0 = .ok (.iload_n 0, 1) := by decide +kernel
theorem d11_1 : decode jdk_42_method_158_code 1 = .ok (.iload_n 1, 1) := by decide +kernel
theorem d11_2 : decode jdk_42_method_158_code 2 = .ok (.iload_n 2, 1) := by decide +kernel
theorem d11_3 : decode jdk_42_method_158_code 3 = .ok (.getstatic 1053, 3) := by decide +kernel
theorem d11_6 : decode jdk_42_method_158_code 6 = .ok (.invokestatic 1062, 3) := by decide +kernel
theorem d11_9 : decode jdk_42_method_158_code 9 = .ok (.pop, 1) := by decide +kernel
theorem d11_10 : decode jdk_42_method_158_code 10 = .ok (.return_, 1) := by decide +kernel
theorem d12_0 : decode jdk_41_method_12_code 0 = .ok (.iload_n 0, 1) := by decide +kernel
theorem d12_1 : decode jdk_41_method_12_code 1 = .ok (.ifCond .lt 13, 3) := by decide +kernel
theorem d12_4 : decode jdk_41_method_12_code 4 = .ok (.iload_n 0, 1) := by decide +kernel
theorem d12_5 : decode jdk_41_method_12_code 5 = .ok (.iload_n 1, 1) := by decide +kernel
theorem d12_6 : decode jdk_41_method_12_code 6 = .ok (.if_icmp .gt 8, 3) := by decide +kernel
theorem d12_9 : decode jdk_41_method_12_code 9 = .ok (.iload_n 1, 1) := by decide +kernel
theorem d12_10 : decode jdk_41_method_12_code 10 = .ok (.iload_n 2, 1) := by decide +kernel
theorem d12_11 : decode jdk_41_method_12_code 11 = .ok (.if_icmp .le 11, 3) := by decide +kernel
theorem d12_22 : decode jdk_41_method_12_code 22 = .ok (.iload_n 0, 1) := by decide +kernel
theorem d12_23 : decode jdk_41_method_12_code 23 = .ok (.ireturn, 1) := by decide +kernel
theorem d13_0 : decode jdk_42_method_154_code 0 = .ok (.getstatic 38, 3) := by decide +kernel
theorem d13_3 : decode jdk_42_method_154_code 3 = .ok (.ifCond .eq 14, 3) := by decide +kernel
theorem d13_6 : decode jdk_42_method_154_code 6 = .ok (.aload_n 0, 1) := by decide +kernel
theorem d13_7 : decode jdk_42_method_154_code 7 = .ok (.getfield 15, 3) := by decide +kernel
theorem d13_10 : decode jdk_42_method_154_code 10 = .ok (.ifCond .ne 7, 3) := by decide +kernel
theorem d13_13 : decode jdk_42_method_154_code 13 = .ok (.iconst 1, 1) := by decide +kernel
theorem d13_14 : decode jdk_42_method_154_code 14 = .ok (.goto 4, 3) := by decide +kernel
theorem d13_18 : decode jdk_42_method_154_code 18 = .ok (.ireturn, 1) := by decide +kernel
theorem d14_0 : decode jdk_43_method_47_code 0 = .ok (.iload_n 2, 1) := by decide +kernel
theorem d14_1 : decode jdk_43_method_47_code 1 = .ok (.ifCond .ne 6, 3) := by decide +kernel
theorem d14_4 : decode jdk_43_method_47_code 4 = .ok (.ldc 151, 2) := by decide +kernel
theorem d14_6 : decode jdk_43_method_47_code 6 = .ok (.areturn, 1) := by decide +kernel
theorem d14_7 : decode jdk_43_method_47_code 7 = .ok (.new 1, 3) := by decide +kernel
theorem d14_10 : decode jdk_43_method_47_code 10 = .ok (.dup, 1) := by decide +kernel
theorem d14_11 : decode jdk_43_method_47_code 11 = .ok (.aload_n 0, 1) := by decide +kernel
theorem d14_12 : decode jdk_43_method_47_code 12 = .ok (.iload_n 1, 1) := by decide +kernel
theorem d14_13 : decode jdk_43_method_47_code 13 = .ok (.iload_n 1, 1) := by decide +kernel
theorem d14_14 : decode jdk_43_method_47_code 14 = .ok (.iload_n 2, 1) := by decide +kernel
theorem d14_15 : decode jdk_43_method_47_code 15 = .ok (.iadd, 1) := by decide +kernel
theorem d14_16 : decode jdk_43_method_47_code 16 = .ok (.invokestatic 232, 3) := by decide +kernel
theorem d14_19 : decode jdk_43_method_47_code 19 = .ok (.iconst 0, 1) := by decide +kernel
theorem d14_20 : decode jdk_43_method_47_code 20 = .ok (.invokespecial 112, 3) := by decide +kernel
theorem d14_23 : decode jdk_43_method_47_code 23 = .ok (.areturn, 1) := by decide +kernel
theorem d17_0 : decode jdk_65_method_132_code 0 = .ok (.iload_n 1, 1) := by decide +kernel
theorem d17_1 : decode jdk_65_method_132_code 1 = .ok (.ifCond .ne 9, 3) := by decide +kernel
theorem d17_10 : decode jdk_65_method_132_code 10 = .ok (.aload_n 0, 1) := by decide +kernel
theorem d17_11 : decode jdk_65_method_132_code 11 = .ok (.iload_n 1, 1) := by decide +kernel
theorem d17_12 : decode jdk_65_method_132_code 12 = .ok (.iload_n 2, 1) := by decide +kernel
theorem d17_13 : decode jdk_65_method_132_code 13 = .ok (.invokestatic 339, 3) := by decide +kernel
theorem d17_16 : decode jdk_65_method_132_code 16 = .ok (.areturn, 1) := by decide +kernel
theorem d18_0 : decode jdk_65_method_133_code 0 = .ok (.iload_n 1, 1) := by decide +kernel
theorem d18_1 : decode jdk_65_method_133_code 1 = .ok (.iload_n 2, 1) := by decide +kernel
theorem d18_2 : decode jdk_65_method_133_code 2 = .ok (.invokestatic 343, 3) := by decide +kernel
theorem d18_5 : decode jdk_65_method_133_code 5 = .ok (.iload_n 2, 1) := by decide +kernel
theorem d18_6 : decode jdk_65_method_133_code 6 = .ok (.iload_n 1, 1) := by decide +kernel
theorem d18_7 : decode jdk_65_method_133_code 7 = .ok (.isub, 1) := by decide +kernel
theorem d18_8 : decode jdk_65_method_133_code 8 = .ok (.istore_n 3, 1) := by decide +kernel
theorem d18_9 : decode jdk_65_method_133_code 9 = .ok (.iload_n 3, 1) := by decide +kernel
theorem d18_10 : decode jdk_65_method_133_code 10 = .ok (.newarray .byte, 2) := by decide +kernel
theorem d18_12 : decode jdk_65_method_133_code 12 = .ok (.astore 4, 2) := by decide +kernel
theorem d18_14 : decode jdk_65_method_133_code 14 = .ok (.aload_n 0, 1) := by decide +kernel
theorem d18_15 : decode jdk_65_method_133_code 15 = .ok (.iload_n 1, 1) := by decide +kernel
theorem d18_16 : decode jdk_65_method_133_code 16 = .ok (.aload 4, 2) := by decide +kernel
theorem d18_18 : decode jdk_65_method_133_code 18 = .ok (.iconst 0, 1) := by decide +kernel
theorem d18_19 : decode jdk_65_method_133_code 19 = .ok (.aload_n 0, 1) := by decide +kernel
theorem d18_20 : decode jdk_65_method_133_code 20 = .ok (.arraylength, 1) := by decide +kernel
theorem d18_21 : decode jdk_65_method_133_code 21 = .ok (.iload_n 1, 1) := by decide +kernel
theorem d18_22 : decode jdk_65_method_133_code 22 = .ok (.isub, 1) := by decide +kernel
theorem d18_23 : decode jdk_65_method_133_code 23 = .ok (.iload_n 3, 1) := by decide +kernel
theorem d18_24 : decode jdk_65_method_133_code 24 = .ok (.invokestatic 304, 3) := by decide +kernel
theorem d18_27 : decode jdk_65_method_133_code 27 = .ok (.invokestatic 150, 3) := by decide +kernel
theorem d18_30 : decode jdk_65_method_133_code 30 = .ok (.aload 4, 2) := by decide +kernel
theorem d18_32 : decode jdk_65_method_133_code 32 = .ok (.areturn, 1) := by decide +kernel
theorem d19_0 : decode jdk_65_method_131_code 0 = .ok (.iload_n 1, 1) := by decide +kernel
theorem d19_1 : decode jdk_65_method_131_code 1 = .ok (.iload_n 0, 1) := by decide +kernel
theorem d19_2 : decode jdk_65_method_131_code 2 = .ok (.if_icmp .ge 35, 3) := by decide +kernel
theorem d19_37 : decode jdk_65_method_131_code 37 = .ok (.return_, 1) := by decide +kernel
theorem d20_0 : decode jdk_29_method_69_code 0 = .ok (.iload_n 0, 1) := by decide +kernel
theorem d20_1 : decode jdk_29_method_69_code 1 = .ok (.iload_n 1, 1) := by decide +kernel
theorem d20_2 : decode jdk_29_method_69_code 2 = .ok (.if_icmp .gt 7, 3) := by decide +kernel
theorem d20_9 : decode jdk_29_method_69_code 9 = .ok (.iload_n 1, 1) := by decide +kernel
theorem d20_10 : decode jdk_29_method_69_code 10 = .ok (.ireturn, 1) := by decide +kernel
theorem d21_0 : decode jdk_42_method_151_code 0 = .ok (.aload_n 0, 1) := by decide +kernel
theorem d21_1 : decode jdk_42_method_151_code 1 = .ok (.invokespecial 1, 3) := by decide +kernel
theorem d21_4 : decode jdk_42_method_151_code 4 = .ok (.aload_n 0, 1) := by decide +kernel
theorem d21_5 : decode jdk_42_method_151_code 5 = .ok (.aload_n 1, 1) := by decide +kernel
theorem d21_6 : decode jdk_42_method_151_code 6 = .ok (.putfield 9, 3) := by decide +kernel
theorem d21_9 : decode jdk_42_method_151_code 9 = .ok (.aload_n 0, 1) := by decide +kernel
theorem d21_10 : decode jdk_42_method_151_code 10 = .ok (.iload_n 2, 1) := by decide +kernel
theorem d21_11 : decode jdk_42_method_151_code 11 = .ok (.putfield 15, 3) := by decide +kernel
theorem d21_14 : decode jdk_42_method_151_code 14 = .ok (.return_, 1) := by decide +kernel
theorem pd_0 : parseMethodDescriptor "(IIILjava/util/function/BiFunction;)I" = some ⟨[.int, .int, .int, (.object "java/util/function/BiFunction")], some .int⟩ := by decide +kernel
theorem pd_1 : parseMethodDescriptor "()I" = some ⟨[], some .int⟩ := by decide +kernel
theorem pd_2 : parseMethodDescriptor "(III)V" = some ⟨[.int, .int, .int], none⟩ := by decide +kernel
theorem pd_3 : parseMethodDescriptor "()Z" = some ⟨[], some .boolean⟩ := by decide +kernel
theorem pd_4 : parseMethodDescriptor "([BII)Ljava/lang/String;" = some ⟨[(.array .byte), .int, .int], some (.object "java/lang/String")⟩ := by decide +kernel
theorem pd_5 : parseMethodDescriptor "(II)Ljava/lang/String;" = some ⟨[.int, .int], some (.object "java/lang/String")⟩ := by decide +kernel
theorem pd_6 : parseMethodDescriptor "(II)V" = some ⟨[.int, .int], none⟩ := by decide +kernel
theorem pd_7 : parseMethodDescriptor "(II)I" = some ⟨[.int, .int], some .int⟩ := by decide +kernel
theorem pd_8 : parseMethodDescriptor "([BII)[B" = some ⟨[(.array .byte), .int, .int], some (.array .byte)⟩ := by decide +kernel
theorem pd_9 : parseMethodDescriptor "([BB)V" = some ⟨[(.array .byte), .byte], none⟩ := by decide +kernel
theorem pd_10 : parseMethodDescriptor "([C)V" = some ⟨[(.array .char)], none⟩ := by decide +kernel
theorem pd_11 : parseMethodDescriptor "([CIILjava/lang/Void;)V" = some ⟨[(.array .char), .int, .int, (.object "java/lang/Void")], none⟩ := by decide +kernel
theorem pd_12 : parseMethodDescriptor "(Ljava/lang/String;)Ljava/lang/String;" = some ⟨[(.object "java/lang/String")], some (.object "java/lang/String")⟩ := by decide +kernel
theorem pd_13 : parseMethodDescriptor "(Ljava/lang/Object;)Z" = some ⟨[(.object "java/lang/Object")], some .boolean⟩ := by decide +kernel
set_option maxRecDepth 65536 in
set_option maxHeartbeats 40000000 in
theorem rmCFT_3_3_7n (l : Launch) (Z : State) (a0 : Array Value) (hw : ∀ d ∈ tables_1, d.before a0 Z = true)  (h0 : Heap) (O0 : Old Z Z.heap.size h0)  :
    own_NC l Z (⟨"jdk/internal/util/Preconditions", "checkFromToIndex", "(IIILjava/util/function/BiFunction;)I"⟩ : MethodName) jdk_41_method_12_code 4 (some .int) ({ frames := 0, cells := 0, slots := 0, locals := 0 } : Room) #[(.int (3 : Int32)), (.int (3 : Int32)), (.int (7 : Int32)), .null] h0 (fun v h => v = some (.int (3 : Int32)) ∧ h = h0) := by
  refine own_nc (plainFor_of_name (by first | (simp [plainName, overriddenIn]; done) | decide +kernel)) ?_
  intro p e s m below meth c s₁ S0 X0 hx hby hml hret hnm hown hZ e0 cc
  have N0 := Fr.nil Z.heap.size
  have c0 : Steps p.tables e below S0 (s₁.setTop (mkF m 0 #[.val (.int (3 : Int32)), .val (.int (3 : Int32)), .val (.int (7 : Int32)), .val .null] [])) := cc.trans (XT.entry rfl)
  have c1 : Steps p.tables e below S0 (s₁.setTop (mkF m 23 #[.val (.int (3 : Int32)), .val (.int (3 : Int32)), .val (.int (7 : Int32)), .val .null] [(.int (3 : Int32))])) := c0.trans (by
    refine XS.iloadN X0.here hx rfl (hb hby d12_0) rfl ?_
    refine XS.ifNo X0.here hx rfl (hb hby d12_1) rfl ((if0 _ _).trans (flt (by decide : ¬ ((3 : Int32) < (0 : Int32)))).1) ?_
    refine XS.iloadN X0.here hx rfl (hb hby d12_4) rfl ?_
    refine XS.iloadN X0.here hx rfl (hb hby d12_5) rfl ?_
    refine XS.icmpNo X0.here hx rfl (hb hby d12_6) rfl (flt (by decide : ¬ ((3 : Int32) < (3 : Int32)))).2.2.1 ?_
    refine XS.iloadN X0.here hx rfl (hb hby d12_9) rfl ?_
    refine XS.iloadN X0.here hx rfl (hb hby d12_10) rfl ?_
    refine XS.icmpYes X0.here hx rfl (pc0 := 11) (pc' := 22) rfl (hb hby d12_11) rfl (flt (by decide : ¬ ((7 : Int32) < (3 : Int32)))).2.2.2 (by decide) (by decide) ?_
    refine XS.iloadN X0.here hx rfl (hb hby d12_22) rfl ?_
    exact Steps.refl _)
  refine ⟨s₁, (some (.int (3 : Int32))), _, _, _, X0, by decide, by decide, (fun q => by cases q), N0, ?_, fun fs hr => ?_⟩
  · rw [e0]
    exact ⟨rfl, rfl⟩
  · exact c1.trans (retI X0 hx hret (hb hby d12_23) hr)
set_option maxRecDepth 65536 in
set_option maxHeartbeats 40000000 in
theorem rmCFT_3_3_7r (l : Launch) (Z : State) (a0 : Array Value) (hw : ∀ d ∈ tables_1, d.before a0 Z = true) (fa : Addr) (h0 : Heap) (O0 : Old Z Z.heap.size h0)  :
    own_NC l Z (⟨"jdk/internal/util/Preconditions", "checkFromToIndex", "(IIILjava/util/function/BiFunction;)I"⟩ : MethodName) jdk_41_method_12_code 4 (some .int) ({ frames := 0, cells := 0, slots := 0, locals := 0 } : Room) #[(.int (3 : Int32)), (.int (3 : Int32)), (.int (7 : Int32)), (.ref fa)] h0 (fun v h => v = some (.int (3 : Int32)) ∧ h = h0) := by
  refine own_nc (plainFor_of_name (by first | (simp [plainName, overriddenIn]; done) | decide +kernel)) ?_
  intro p e s m below meth c s₁ S0 X0 hx hby hml hret hnm hown hZ e0 cc
  have N0 := Fr.nil Z.heap.size
  have c0 : Steps p.tables e below S0 (s₁.setTop (mkF m 0 #[.val (.int (3 : Int32)), .val (.int (3 : Int32)), .val (.int (7 : Int32)), .val (.ref fa)] [])) := cc.trans (XT.entry rfl)
  have c1 : Steps p.tables e below S0 (s₁.setTop (mkF m 23 #[.val (.int (3 : Int32)), .val (.int (3 : Int32)), .val (.int (7 : Int32)), .val (.ref fa)] [(.int (3 : Int32))])) := c0.trans (by
    refine XS.iloadN X0.here hx rfl (hb hby d12_0) rfl ?_
    refine XS.ifNo X0.here hx rfl (hb hby d12_1) rfl ((if0 _ _).trans (flt (by decide : ¬ ((3 : Int32) < (0 : Int32)))).1) ?_
    refine XS.iloadN X0.here hx rfl (hb hby d12_4) rfl ?_
    refine XS.iloadN X0.here hx rfl (hb hby d12_5) rfl ?_
    refine XS.icmpNo X0.here hx rfl (hb hby d12_6) rfl (flt (by decide : ¬ ((3 : Int32) < (3 : Int32)))).2.2.1 ?_
    refine XS.iloadN X0.here hx rfl (hb hby d12_9) rfl ?_
    refine XS.iloadN X0.here hx rfl (hb hby d12_10) rfl ?_
    refine XS.icmpYes X0.here hx rfl (pc0 := 11) (pc' := 22) rfl (hb hby d12_11) rfl (flt (by decide : ¬ ((7 : Int32) < (3 : Int32)))).2.2.2 (by decide) (by decide) ?_
    refine XS.iloadN X0.here hx rfl (hb hby d12_22) rfl ?_
    exact Steps.refl _)
  refine ⟨s₁, (some (.int (3 : Int32))), _, _, _, X0, by decide, by decide, (fun q => by cases q), N0, ?_, fun fs hr => ?_⟩
  · rw [e0]
    exact ⟨rfl, rfl⟩
  · exact c1.trans (retI X0 hx hret (hb hby d12_23) hr)
theorem rmCFT_3_3_7 (l : Launch) (Z : State) (a0 : Array Value) (hw : ∀ d ∈ tables_1, d.before a0 Z = true) (fm : Value) (h0 : Heap) (O0 : Old Z Z.heap.size h0) (hfm : fm.isRef = true) : own_NC l Z (⟨"jdk/internal/util/Preconditions", "checkFromToIndex", "(IIILjava/util/function/BiFunction;)I"⟩ : MethodName) jdk_41_method_12_code 4 (some .int) ({ frames := 0, cells := 0, slots := 0, locals := 0 } : Room) #[(.int (3 : Int32)), (.int (3 : Int32)), (.int (7 : Int32)), fm] h0 (fun v h => v = some (.int (3 : Int32)) ∧ h = h0) := by
  rcases ref_cases hfm with rfl | ⟨fa, rfl⟩
  · exact rmCFT_3_3_7n l Z a0 hw h0 O0
  · exact rmCFT_3_3_7r l Z a0 hw fa h0 O0
set_option maxRecDepth 65536 in
set_option maxHeartbeats 40000000 in
theorem rmCBE0 (l : Launch) (Z : State) (a0 : Array Value) (hw : ∀ d ∈ tables_1, d.before a0 Z = true) (z : Int32) (fm : Value) (h0 : Heap) (O0 : Old Z Z.heap.size h0) (SC : Sta Z Z.heap "java/lang/String" "COMPACT_STRINGS" "Z" (.int z)) (hz : ¬ z = 0) (SF : Sta Z Z.heap "jdk/internal/util/Preconditions" "SIOOBE_FORMATTER" "Ljava/util/function/BiFunction;" fm) (hfm : fm.isRef = true) :
    own_NC l Z (⟨"java/lang/String", "checkBoundsBeginEnd", "(III)V"⟩ : MethodName) jdk_42_method_158_code 3 none ({ frames := 1, cells := 0, slots := 0, locals := 20 } : Room) #[(.int (3 : Int32)), (.int (3 : Int32)), (.int (7 : Int32))] h0 (fun v h => v = none ∧ h = h0) := by
  refine own_nc (plainFor_of_name (by first | (simp [plainName, overriddenIn]; done) | decide +kernel)) ?_
  intro p e s m below meth c s₁ S0 X0 hx hby hml hret hnm hown hZ e0 cc
  have N0 := Fr.nil Z.heap.size
  have c0 : Steps p.tables e below S0 (s₁.setTop (mkF m 0 #[.val (.int (3 : Int32)), .val (.int (3 : Int32)), .val (.int (7 : Int32))] [])) := cc.trans (XT.entry rfl)
  have c1 : Steps p.tables e below S0 (s₁.setTop (mkF m 3 #[.val (.int (3 : Int32)), .val (.int (3 : Int32)), .val (.int (7 : Int32))] [(.int (7 : Int32)), (.int (3 : Int32)), (.int (3 : Int32))])) := c0.trans (by
    refine XS.iloadN X0.here hx rfl (hb hby d11_0) rfl ?_
    refine XS.iloadN X0.here hx rfl (hb hby d11_1) rfl ?_
    refine XS.iloadN X0.here hx rfl (hb hby d11_2) rfl ?_
    exact Steps.refl _)
  obtain ⟨T2, X2, e2, st2⟩ := getS2 X0 hx hZ hown (host := "") (Or.inl (hw _ (List.mem_of_getElem? (i := 59) rfl))) Via.refl e0 (SF.ext O0.2) (g := (mkF m 3 #[.val (.int (3 : Int32)), .val (.int (3 : Int32)), .val (.int (7 : Int32))] [(.int (7 : Int32)), (.int (3 : Int32)), (.int (3 : Int32))])) rfl (hb hby d11_3)
  have c2 : Steps p.tables e below S0 (T2.setTop (mkF m 6 #[.val (.int (3 : Int32)), .val (.int (3 : Int32)), .val (.int (7 : Int32))] [fm, (.int (7 : Int32)), (.int (3 : Int32)), (.int (3 : Int32))])) := c1.trans (st2 _ (Steps.refl _))
  obtain ⟨v3, T3, L3, X3, ⟨N3', rfl, e3⟩, c3'⟩ := own_stat X2 hx hml hZ hown (hw _ (List.mem_of_getElem? (i := 61) rfl)) (hw _ (List.mem_of_getElem? (i := 62) rfl)) (hw _ (List.mem_of_getElem? (i := 60) rfl)) (hw _ (List.mem_of_getElem? (i := 63) rfl)) (by decide) (kc := 0) (ks := 0) (h := h0) (W := 0) (argsL := [(.int (3 : Int32)), (.int (3 : Int32)), (.int (7 : Int32)), fm]) (rest := []) (own_pay (W := 0) (rmCFT_3_3_7 l Z a0 hw fm h0 O0 hfm) hZ (hw _ (List.mem_of_getElem? (i := 63) rfl)) (hw _ (List.mem_of_getElem? (i := 60) rfl)) (by decide) (by decide)) c2 rfl rfl (lenOf pd_0 rfl) rfl (by show 2 * 0 + _ ≤ _; exact Nat.le_of_eq rfl) (hb hby d11_6) e2 (by decide) (by decide)
  have N3 := Fr.app N0 N3'
  have c3 : Steps p.tables e below S0 (T3.setTop (mkF m 9 #[.val (.int (3 : Int32)), .val (.int (3 : Int32)), .val (.int (7 : Int32))] [(.int (3 : Int32))])) := c3'
  have c4 : Steps p.tables e below S0 (T3.setTop (mkF m 10 #[.val (.int (3 : Int32)), .val (.int (3 : Int32)), .val (.int (7 : Int32))] [])) := c3.trans (by
    refine XS.pop X3.here hx rfl (hb hby d11_9) rfl rfl ?_
    exact Steps.refl _)
  refine ⟨T3, none, _, _, _, X3, by decide, by decide, (fun _ => rfl), N3, ?_, fun fs hr => ?_⟩
  · rw [e3]
    exact ⟨rfl, rfl⟩
  · exact c4.trans (X3.returnOut hx hret (hb hby d11_10) hr)
set_option maxRecDepth 65536 in
set_option maxHeartbeats 40000000 in
theorem rmNS0 (l : Launch) (Z : State) (a0 : Array Value) (hw : ∀ d ∈ tables_1, d.before a0 Z = true) (hEL : EW Z a0 EL) (t : Addr) (kb : ClassId) (xa xb xc xd : Int32) (h0 : Heap) (O0 : Old Z Z.heap.size h0) (Kt : Arv Z h0 t kb .byte (7 : Int32) [(.int (82 : Int32)), (.int (95 : Int32)), (.int (95 : Int32)), (.int (46 : Int32)), (.int (115 : Int32)), (.int (113 : Int32)), (.int (108 : Int32))] (.int (0 : Int32))) :
    own_WC l Z EL (⟨"java/lang/StringLatin1", "newString", "([BII)Ljava/lang/String;"⟩ : MethodName) jdk_43_method_47_code 3 (some (.object "java/lang/String")) ({ frames := 3, cells := 6, slots := 40, locals := 80 } : Room) #[(.ref t), (.int (3 : Int32)), (.int (0 : Int32))] h0 [] (fun v h => (∃ (x t : Addr) (kb : ClassId), v = some (.ref x) ∧ Keep h0 h [] ∧ Exa Z h x "java/lang/String" ∧ Fld Z h x "java/lang/String" "value" "[B" (.ref t) ∧ Fld Z h x "java/lang/String" "coder" "B" (.int (0 : Int32)) ∧ Arv Z h t kb .byte (Int32.ofNat ([] : List Int32).length) ((([] : List Int32).map (fun c : Int32 => c.toInt8.toInt32)).map Value.int) (.int (0 : Int32)))) := by
  refine own_wc (plainFor_of_name (by first | (simp [plainName, overriddenIn]; done) | decide +kernel)) hEL ?_
  intro p e s m below meth c s₁ S0 X0 hx hby hml hret hnm hown hZ e0 hS0 CR0 hsf cc
  have N0 := Fr.nil Z.heap.size
  have hk0 : 0 ≤ h0.size := Nat.zero_le _
  have hstr : ∀ d ∈ Bundle.stringAtoms, d.before a0 Z = true := fun d hd => hw d (own_strA d hd)
  have c0 : Steps p.tables e below S0 (s₁.setTop (mkF m 0 #[.val (.ref t), .val (.int (3 : Int32)), .val (.int (0 : Int32))] [])) := cc.trans (XT.entry rfl)
  have c1 : Steps p.tables e below S0 (s₁.setTop (mkF m 4 #[.val (.ref t), .val (.int (3 : Int32)), .val (.int (0 : Int32))] [])) := c0.trans (by
    refine XS.iloadN X0.here hx rfl (hb hby d14_0) rfl ?_
    refine XS.ifNo X0.here hx rfl (hb hby d14_1) rfl ((if0 _ _).trans (teq (by decide : (0 : Int32) = (0 : Int32))).2) ?_
    exact Steps.refl _)
  obtain ⟨la_2, T2, h2, kn2, lb_2, lk2, X2, e2, E2, hS2, hk2, hZ2, hown2, Ea2, Ca2, Va2, Kb2, la2, lb2, R2, Lt2, ne2, st2⟩ := ldcCH X0 hx hZ hown (hw _ (List.mem_of_getElem? (i := 73) rfl)) hstr e0 hS0 hk0 hEL (by decide) CR0.1 (vs := []) (z := (0 : Int32)) ⟨by decide, by decide⟩ (by decide) (by decide) (g := (mkF m 4 #[.val (.ref t), .val (.int (3 : Int32)), .val (.int (0 : Int32))] [])) rfl (hb hby d14_4) (n := 0) (by decide) (by decide) (by decide) (by decide)
  have CR2 := CR0.trans R2
  have c2 : Steps p.tables e below S0 (T2.setTop (mkF m 6 #[.val (.ref t), .val (.int (3 : Int32)), .val (.int (0 : Int32))] [(.ref la_2)])) := c1.trans (st2 _ (Steps.refl _))
  refine ⟨T2, T2.vm, _, (some (.ref la_2)), _, _, _, X2, by decide, by decide, (fun q => by cases q), N0, hS2, by rw [e2]; exact hk2, hZ2, by rw [e2]; exact CR2, ?_, fun fs hr => ?_⟩
  · rw [e2]
    exact ⟨la_2, lb_2, lk2, rfl, ((Keep.refl h0 []).ext E2), Ea2, Va2, Ca2, Kb2⟩
  · exact own_retR X2 hx c2 hret rfl rfl (hb hby d14_6) hr
set_option maxRecDepth 65536 in
set_option maxHeartbeats 40000000 in
theorem rmIsL (l : Launch) (Z : State) (a0 : Array Value) (hw : ∀ d ∈ tables_1, d.before a0 Z = true) (x : Addr) (z : Int32) (fm : Value) (h0 : Heap) (O0 : Old Z Z.heap.size h0) (Cd : Fld Z h0 x "java/lang/String" "coder" "B" (.int (0 : Int32))) (SC : Sta Z Z.heap "java/lang/String" "COMPACT_STRINGS" "Z" (.int z)) (hz : ¬ z = 0) (SF : Sta Z Z.heap "jdk/internal/util/Preconditions" "SIOOBE_FORMATTER" "Ljava/util/function/BiFunction;" fm) (hfm : fm.isRef = true) :
    own_NC l Z (⟨"java/lang/String", "isLatin1", "()Z"⟩ : MethodName) jdk_42_method_154_code 1 (some .boolean) ({ frames := 0, cells := 0, slots := 0, locals := 0 } : Room) #[(.ref x)] h0 (fun v h => v = some (.int (1 : Int32)) ∧ h = h0) := by
  refine own_nc (plainFor_of_name (by first | (simp [plainName, overriddenIn]; done) | decide +kernel)) ?_
  intro p e s m below meth c s₁ S0 X0 hx hby hml hret hnm hown hZ e0 cc
  have N0 := Fr.nil Z.heap.size
  have c0 : Steps p.tables e below S0 (s₁.setTop (mkF m 0 #[.val (.ref x)] [])) := cc.trans (XT.entry rfl)
  obtain ⟨T1, X1, e1, st1⟩ := getS2 X0 hx hZ hown (host := "") (Or.inl (hw _ (List.mem_of_getElem? (i := 15) rfl))) Via.refl e0 (SC.ext O0.2) (g := (mkF m 0 #[.val (.ref x)] [])) rfl (hb hby d13_0)
  have c1 : Steps p.tables e below S0 (T1.setTop (mkF m 3 #[.val (.ref x)] [(.int z)])) := c0.trans (st1 _ (Steps.refl _))
  have c2 : Steps p.tables e below S0 (T1.setTop (mkF m 7 #[.val (.ref x)] [(.ref x)])) := c1.trans (by
    refine XS.ifNo X1.here hx rfl (hb hby d13_3) rfl ((if0 _ _).trans (feq hz).1) ?_
    refine XS.aloadN X1.here hx rfl (hb hby d13_6) rfl rfl ?_
    exact Steps.refl _)
  obtain ⟨T3, X3, e3, st3⟩ := getF X1 hx hZ hown (host := "") (Or.inl (hw _ (List.mem_of_getElem? (i := 27) rfl))) Via.refl e1 Cd (g := (mkF m 7 #[.val (.ref x)] [(.ref x)])) rfl rfl (hb hby d13_7)
  have c3 : Steps p.tables e below S0 (T3.setTop (mkF m 10 #[.val (.ref x)] [(.int (0 : Int32))])) := c2.trans (st3 _ (Steps.refl _))
  have c4 : Steps p.tables e below S0 (T3.setTop (mkF m 18 #[.val (.ref x)] [(.int (1 : Int32))])) := c3.trans (by
    refine XS.ifNo X3.here hx rfl (hb hby d13_10) rfl ((if0 _ _).trans (teq (by decide : (0 : Int32) = (0 : Int32))).2) ?_
    refine XS.iconst X3.here hx rfl (hb hby d13_13) ?_
    refine XS.goto X3.here hx rfl (pc0 := 14) (pc' := 18) rfl (hb hby d13_14) (by decide) (by decide) ?_
    exact Steps.refl _)
  refine ⟨T3, (some (.int (1 : Int32))), _, _, _, X3, by decide, by decide, (fun q => by cases q), N0, ?_, fun fs hr => ?_⟩
  · rw [e3]
    exact ⟨rfl, rfl⟩
  · exact c4.trans (retN X3 hx (t := .boolean) hret (by simp) (hb hby d13_18) hr)
set_option maxRecDepth 65536 in
set_option maxHeartbeats 40000000 in
theorem rmSub0 (l : Launch) (Z : State) (a0 : Array Value) (hw : ∀ d ∈ tables_1, d.before a0 Z = true) (hEL : EW Z a0 EL) (x t : Addr) (kb : ClassId) (xa xb xc xd : Int32) (z : Int32) (fm : Value) (h0 : Heap) (O0 : Old Z Z.heap.size h0) (E : Exa Z h0 x "java/lang/String") (V : Fld Z h0 x "java/lang/String" "value" "[B" (.ref t)) (Cd : Fld Z h0 x "java/lang/String" "coder" "B" (.int (0 : Int32))) (K : Arv Z h0 t kb .byte (Int32.ofNat ([(82 : Int32), (95 : Int32), (95 : Int32), (46 : Int32), (115 : Int32), (113 : Int32), (108 : Int32)] : List Int32).length) ((([(82 : Int32), (95 : Int32), (95 : Int32), (46 : Int32), (115 : Int32), (113 : Int32), (108 : Int32)] : List Int32).map (fun c : Int32 => c.toInt8.toInt32)).map Value.int) (.int (0 : Int32))) (hxa : own_B xa) (hxb : own_B xb) (hxc : own_B xc) (hxd : own_B xd) (SC : Sta Z Z.heap "java/lang/String" "COMPACT_STRINGS" "Z" (.int z)) (hz : ¬ z = 0) (SF : Sta Z Z.heap "jdk/internal/util/Preconditions" "SIOOBE_FORMATTER" "Ljava/util/function/BiFunction;" fm) (hfm : fm.isRef = true) :
    own_WC l Z EL (⟨"java/lang/String", "substring", "(II)Ljava/lang/String;"⟩ : MethodName) jdk_42_method_92_code 5 (some (.object "java/lang/String")) ({ frames := 5, cells := 6, slots := 40, locals := 110 } : Room) #[(.ref x), (.int (3 : Int32)), (.int (3 : Int32))] h0 [] (fun v h => (∃ (x t : Addr) (kb : ClassId), v = some (.ref x) ∧ Keep h0 h [] ∧ Exa Z h x "java/lang/String" ∧ Fld Z h x "java/lang/String" "value" "[B" (.ref t) ∧ Fld Z h x "java/lang/String" "coder" "B" (.int (0 : Int32)) ∧ Arv Z h t kb .byte (Int32.ofNat ([] : List Int32).length) ((([] : List Int32).map (fun c : Int32 => c.toInt8.toInt32)).map Value.int) (.int (0 : Int32)))) := by
  refine own_wc (plainFor_of_name (by first | (simp [plainName, overriddenIn]; done) | decide +kernel)) hEL ?_
  intro p e s m below meth c s₁ S0 X0 hx hby hml hret hnm hown hZ e0 hS0 CR0 hsf cc
  have N0 := Fr.nil Z.heap.size
  have hk0 : 0 ≤ h0.size := Nat.zero_le _
  have hstr : ∀ d ∈ Bundle.stringAtoms, d.before a0 Z = true := fun d hd => hw d (own_strA d hd)
  have c0 : Steps p.tables e below S0 (s₁.setTop (mkF m 0 #[.val (.ref x), .val (.int (3 : Int32)), .val (.int (3 : Int32)), .unset, .unset] [])) := cc.trans (XT.entry rfl)
  have c1 : Steps p.tables e below S0 (s₁.setTop (mkF m 1 #[.val (.ref x), .val (.int (3 : Int32)), .val (.int (3 : Int32)), .unset, .unset] [(.ref x)])) := c0.trans (by
    refine XS.aloadN X0.here hx rfl (hb hby d10_0) rfl rfl ?_
    exact Steps.refl _)
  obtain ⟨v2, T2, L2, X2, ⟨rfl, rfl, e2⟩, c2'⟩ := own_virt X0 hx hml hZ hown (hw _ (List.mem_of_getElem? (i := 55) rfl)) (hw _ (List.mem_of_getElem? (i := 40) rfl)) (hw _ (List.mem_of_getElem? (i := 42) rfl)) (hw _ (List.mem_of_getElem? (i := 41) rfl)) (hw _ (List.mem_of_getElem? (i := 42) rfl)) (by decide) (Q := fun v h' L => v = some (.int (Int32.ofNat ([(82 : Int32), (95 : Int32), (95 : Int32), (46 : Int32), (115 : Int32), (113 : Int32), (108 : Int32)] : List Int32).length)) ∧ L = [] ∧ h' = h0) (kc := 0) (ks := 0) (h := h0) (W := 0) (b := x) (argsL := []) (rest := []) (StrChars.Road.lenW (s := (s.setVm s.vm)) (R := ({ frames := 5, cells := 6, slots := 40, locals := 110 } : Room)) (W := 0) hZ (own_wl hw) (kI := 4) (hw _ (List.mem_of_getElem? (i := 3) rfl)) (cs := [(82 : Int32), (95 : Int32), (95 : Int32), (46 : Int32), (115 : Int32), (113 : Int32), (108 : Int32)]) E V Cd K (StrChars.Road.codOf (n := ([(82 : Int32), (95 : Int32), (95 : Int32), (46 : Int32), (115 : Int32), (113 : Int32), (108 : Int32)] : List Int32).length) rfl (fun c hc => ((own_cons (own_Bl 82 (by decide)) (own_cons (own_Bl 95 (by decide)) (own_cons (own_Bl 95 (by decide)) (own_cons (own_Bl 46 (by decide)) (own_cons (own_Bl 115 (by decide)) (own_cons (own_Bl 113 (by decide)) (own_cons (own_Bl 108 (by decide)) own_nil))))))) c hc).rng.2)) (fun c hc => ((own_cons (own_Bl 82 (by decide)) (own_cons (own_Bl 95 (by decide)) (own_cons (own_Bl 95 (by decide)) (own_cons (own_Bl 46 (by decide)) (own_cons (own_Bl 115 (by decide)) (own_cons (own_Bl 113 (by decide)) (own_cons (own_Bl 108 (by decide)) own_nil))))))) c hc).rng2) (SC.ext O0.2) hz (Nat.le_of_ble_eq_true rfl) (by decide) (by decide)) E c1 rfl rfl (lenOf pd_1 rfl) rfl (by show 2 * 0 + _ ≤ _; exact Nat.le_of_eq rfl) (hb hby d10_1) e0 (by decide) (by decide)
  have N2 := Fr.app N0 (Fr.nil _)
  have c2 : Steps p.tables e below S0 (T2.setTop (mkF m 4 #[.val (.ref x), .val (.int (3 : Int32)), .val (.int (3 : Int32)), .unset, .unset] [(.int (7 : Int32))])) := c2'
  have c3 : Steps p.tables e below S0 (T2.setTop (mkF m 8 #[.val (.ref x), .val (.int (3 : Int32)), .val (.int (3 : Int32)), .val (.int (7 : Int32)), .unset] [(.int (7 : Int32)), (.int (3 : Int32)), (.int (3 : Int32))])) := c2.trans (by
    refine XS.istoreN X2.here hx rfl (hb hby d10_4) rfl (l' := #[.val (.ref x), .val (.int (3 : Int32)), .val (.int (3 : Int32)), .val (.int (7 : Int32)), .unset]) rfl ?_
    refine XS.iloadN X2.here hx rfl (hb hby d10_5) rfl ?_
    refine XS.iloadN X2.here hx rfl (hb hby d10_6) rfl ?_
    refine XS.iloadN X2.here hx rfl (hb hby d10_7) rfl ?_
    exact Steps.refl _)
  obtain ⟨v4, T4, L4, X4, ⟨N4', rfl, e4⟩, c4'⟩ := own_stat X2 hx hml hZ hown (hw _ (List.mem_of_getElem? (i := 56) rfl)) (hw _ (List.mem_of_getElem? (i := 57) rfl)) (hw _ (List.mem_of_getElem? (i := 4) rfl)) (hw _ (List.mem_of_getElem? (i := 58) rfl)) (by decide) (kc := 0) (ks := 0) (h := h0) (W := 0) (argsL := [(.int (3 : Int32)), (.int (3 : Int32)), (.int (7 : Int32))]) (rest := []) (own_pay (W := 0) (rmCBE0 l Z a0 hw z fm h0 O0 SC hz SF hfm) hZ (hw _ (List.mem_of_getElem? (i := 58) rfl)) (hw _ (List.mem_of_getElem? (i := 4) rfl)) (by decide) (by decide)) c3 rfl rfl (lenOf pd_2 rfl) rfl (by show 2 * 0 + _ ≤ _; exact Nat.le_of_eq rfl) (hb hby d10_8) e2 (by decide) (by decide)
  have N4 := Fr.app N2 N4'
  have c4 : Steps p.tables e below S0 (T4.setTop (mkF m 11 #[.val (.ref x), .val (.int (3 : Int32)), .val (.int (3 : Int32)), .val (.int (7 : Int32)), .unset] [])) := c4'
  have c5 : Steps p.tables e below S0 (T4.setTop (mkF m 28 #[.val (.ref x), .val (.int (3 : Int32)), .val (.int (3 : Int32)), .val (.int (7 : Int32)), .val (.int (0 : Int32))] [(.ref x)])) := c4.trans (by
    refine XS.iloadN X4.here hx rfl (hb hby d10_11) rfl ?_
    refine XS.ifYes X4.here hx rfl (pc0 := 12) (pc' := 22) rfl (hb hby d10_12) rfl ((if0 _ _).trans (feq (by decide : ¬ ((3 : Int32) = (0 : Int32)))).2) (by decide) (by decide) ?_
    refine XS.iloadN X4.here hx rfl (hb hby d10_22) rfl ?_
    refine XS.iloadN X4.here hx rfl (hb hby d10_23) rfl ?_
    refine XS.isub X4.here hx rfl (hb hby d10_24) rfl ?_
    refine XS.istore X4.here hx rfl (hb hby d10_25) rfl (l' := #[.val (.ref x), .val (.int (3 : Int32)), .val (.int (3 : Int32)), .val (.int (7 : Int32)), .val (.int (0 : Int32))]) rfl ?_
    refine XS.aloadN X4.here hx rfl (hb hby d10_27) rfl rfl ?_
    exact Steps.refl _)
  obtain ⟨v6, T6, L6, X6, ⟨N6', rfl, e6⟩, c6'⟩ := own_virt X4 hx hml hZ hown (hw _ (List.mem_of_getElem? (i := 64) rfl)) (hw _ (List.mem_of_getElem? (i := 65) rfl)) (hw _ (List.mem_of_getElem? (i := 67) rfl)) (hw _ (List.mem_of_getElem? (i := 66) rfl)) (hw _ (List.mem_of_getElem? (i := 67) rfl)) (by decide) (kc := 0) (ks := 0) (h := h0) (W := 0) (b := x) (argsL := []) (rest := []) (own_pay (W := 0) (rmIsL l Z a0 hw x z fm h0 O0 Cd SC hz SF hfm) hZ (hw _ (List.mem_of_getElem? (i := 68) rfl)) (hw _ (List.mem_of_getElem? (i := 4) rfl)) (by decide) (by decide)) E c5 rfl rfl (lenOf pd_3 rfl) rfl (by show 2 * 0 + _ ≤ _; exact Nat.le_of_eq rfl) (hb hby d10_28) e4 (by decide) (by decide)
  have N6 := Fr.app N4 N6'
  have c6 : Steps p.tables e below S0 (T6.setTop (mkF m 31 #[.val (.ref x), .val (.int (3 : Int32)), .val (.int (3 : Int32)), .val (.int (7 : Int32)), .val (.int (0 : Int32))] [(.int (1 : Int32))])) := c6'
  have c7 : Steps p.tables e below S0 (T6.setTop (mkF m 35 #[.val (.ref x), .val (.int (3 : Int32)), .val (.int (3 : Int32)), .val (.int (7 : Int32)), .val (.int (0 : Int32))] [(.ref x)])) := c6.trans (by
    refine XS.ifNo X6.here hx rfl (hb hby d10_31) rfl ((if0 _ _).trans (feq (by decide : ¬ ((1 : Int32) = (0 : Int32)))).1) ?_
    refine XS.aloadN X6.here hx rfl (hb hby d10_34) rfl rfl ?_
    exact Steps.refl _)
  obtain ⟨T8, X8, e8, st8⟩ := getF X6 hx hZ hown (host := "") (Or.inl (hw _ (List.mem_of_getElem? (i := 29) rfl))) Via.refl e6 V (g := (mkF m 35 #[.val (.ref x), .val (.int (3 : Int32)), .val (.int (3 : Int32)), .val (.int (7 : Int32)), .val (.int (0 : Int32))] [(.ref x)])) rfl rfl (hb hby d10_35)
  have c8 : Steps p.tables e below S0 (T8.setTop (mkF m 38 #[.val (.ref x), .val (.int (3 : Int32)), .val (.int (3 : Int32)), .val (.int (7 : Int32)), .val (.int (0 : Int32))] [(.ref t)])) := c7.trans (st8 _ (Steps.refl _))
  have c9 : Steps p.tables e below S0 (T8.setTop (mkF m 41 #[.val (.ref x), .val (.int (3 : Int32)), .val (.int (3 : Int32)), .val (.int (7 : Int32)), .val (.int (0 : Int32))] [(.int (0 : Int32)), (.int (3 : Int32)), (.ref t)])) := c8.trans (by
    refine XS.iloadN X8.here hx rfl (hb hby d10_38) rfl ?_
    refine XS.iload X8.here hx rfl (hb hby d10_39) rfl ?_
    exact Steps.refl _)
  obtain ⟨v10, T10, L10, X10, hS10, hZ10, hown10, R10, ⟨N10', x10, t10, kb10, rfl, K10, E10, V10, Cd10, Kb10⟩, c10'⟩ := own_wstat X8 hx hml hZ hown hS0 hk0 (hw _ (List.mem_of_getElem? (i := 69) rfl)) (hw _ (List.mem_of_getElem? (i := 70) rfl)) (hw _ (List.mem_of_getElem? (i := 71) rfl)) (hw _ (List.mem_of_getElem? (i := 72) rfl)) (by decide) (kc := 6) (ks := 40) (h := h0) (W := 0) (argsL := [(.ref t), (.int (3 : Int32)), (.int (0 : Int32))]) (rest := []) (own_wpay (W := 0) (rmNS0 l Z a0 hw hEL t kb xa xb xc xd h0 O0 K) hZ (hw _ (List.mem_of_getElem? (i := 72) rfl)) (hw _ (List.mem_of_getElem? (i := 71) rfl)) (by decide) (by decide) hEL CR0.1 all0) c9 rfl rfl (lenOf pd_4 rfl) rfl (by show 2 * 0 + _ ≤ _; exact Nat.le_of_eq rfl) (hb hby d10_41) e8 (by decide) (by decide)
  have N10 := Fr.app N6 N10'
  have CR10 := CR0.trans R10
  have c10 : Steps p.tables e below S0 (T10.setTop (mkF m 44 #[.val (.ref x), .val (.int (3 : Int32)), .val (.int (3 : Int32)), .val (.int (7 : Int32)), .val (.int (0 : Int32))] [(.ref x10)])) := c10'
  have c11 : Steps p.tables e below S0 (T10.setTop (mkF m 57 #[.val (.ref x), .val (.int (3 : Int32)), .val (.int (3 : Int32)), .val (.int (7 : Int32)), .val (.int (0 : Int32))] [(.ref x10)])) := c10.trans (by
    refine XS.goto X10.here hx rfl (pc0 := 44) (pc' := 57) rfl (hb hby d10_44) (by decide) (by decide) ?_
    exact Steps.refl _)
  refine ⟨T10, T10.vm, _, (some (.ref x10)), _, _, _, X10, by decide, by decide, (fun q => by cases q), N10, hS10, (Nat.le_refl _), hZ10, CR10, ?_, fun fs hr => ?_⟩
  · skip
    exact ⟨x10, t10, kb10, rfl, ((Keep.refl h0 []).trans K10 all0), E10, V10, Cd10, Kb10⟩
  · exact own_retR X10 hx c11 hret rfl rfl (hb hby d10_57) hr
set_option maxRecDepth 65536 in
set_option maxHeartbeats 40000000 in
theorem rmRN0 (l : Launch) (Z : State) (a0 : Array Value) (hw : ∀ d ∈ tables_1, d.before a0 Z = true) (hEL : EW Z a0 EL) (x t : Addr) (kb : ClassId) (xa xb xc xd : Int32) (z : Int32) (fm : Value) (h0 : Heap) (O0 : Old Z Z.heap.size h0) (E : Exa Z h0 x "java/lang/String") (V : Fld Z h0 x "java/lang/String" "value" "[B" (.ref t)) (Cd : Fld Z h0 x "java/lang/String" "coder" "B" (.int (0 : Int32))) (K : Arv Z h0 t kb .byte (Int32.ofNat ([(82 : Int32), (95 : Int32), (95 : Int32), (46 : Int32), (115 : Int32), (113 : Int32), (108 : Int32)] : List Int32).length) ((([(82 : Int32), (95 : Int32), (95 : Int32), (46 : Int32), (115 : Int32), (113 : Int32), (108 : Int32)] : List Int32).map (fun c : Int32 => c.toInt8.toInt32)).map Value.int) (.int (0 : Int32))) (hxa : own_B xa) (hxb : own_B xb) (hxc : own_B xc) (hxd : own_B xd) (SC : Sta Z Z.heap "java/lang/String" "COMPACT_STRINGS" "Z" (.int z)) (hz : ¬ z = 0) (SF : Sta Z Z.heap "jdk/internal/util/Preconditions" "SIOOBE_FORMATTER" "Ljava/util/function/BiFunction;" fm) (hfm : fm.isRef = true) :
    own_WC l Z EL (⟨"com/example/cambio/cambio/io/MigrationFolder", "repeatableName", "(Ljava/lang/String;)Ljava/lang/String;"⟩ : MethodName) prog_23_method_6_code 1 (some (.object "java/lang/String")) ({ frames := 6, cells := 10, slots := 100, locals := 150 } : Room) #[(.ref x)] h0 [] (fun v h => (∃ (x t : Addr) (kb : ClassId), v = some (.ref x) ∧ Keep h0 h [] ∧ Exa Z h x "java/lang/String" ∧ Fld Z h x "java/lang/String" "value" "[B" (.ref t) ∧ Fld Z h x "java/lang/String" "coder" "B" (.int (0 : Int32)) ∧ Arv Z h t kb .byte (Int32.ofNat ([] : List Int32).length) ((([] : List Int32).map (fun c : Int32 => c.toInt8.toInt32)).map Value.int) (.int (0 : Int32)))) := by
  refine own_wc (plainFor_of_name (by first | (simp [plainName, overriddenIn]; done) | decide +kernel)) hEL ?_
  intro p e s m below meth c s₁ S0 X0 hx hby hml hret hnm hown hZ e0 hS0 CR0 hsf cc
  have N0 := Fr.nil Z.heap.size
  have hk0 : 0 ≤ h0.size := Nat.zero_le _
  have hstr : ∀ d ∈ Bundle.stringAtoms, d.before a0 Z = true := fun d hd => hw d (own_strA d hd)
  have c0 : Steps p.tables e below S0 (s₁.setTop (mkF m 0 #[.val (.ref x)] [])) := cc.trans (XT.entry rfl)
  have c1 : Steps p.tables e below S0 (s₁.setTop (mkF m 1 #[.val (.ref x)] [(.ref x)])) := c0.trans (by
    refine XS.aloadN X0.here hx rfl (hb hby d7_0) rfl rfl ?_
    exact Steps.refl _)
  obtain ⟨la_2, T2, h2, kn2, lb_2, lk2, X2, e2, E2, hS2, hk2, hZ2, hown2, Ea2, Ca2, Va2, Kb2, la2, lb2, R2, Lt2, ne2, st2⟩ := ldcCH X0 hx hZ hown (hw _ (List.mem_of_getElem? (i := 38) rfl)) hstr e0 hS0 hk0 hEL (by decide) CR0.1 (vs := [(.int (82 : Int32)), (.int (95 : Int32)), (.int (95 : Int32))]) (z := (3 : Int32)) ⟨by decide, by decide⟩ (by decide) (by decide) (g := (mkF m 1 #[.val (.ref x)] [(.ref x)])) rfl (hb hby d7_1) (n := 12) (by decide) (by decide) (by decide) (by decide)
  have CR2 := CR0.trans R2
  have c2 : Steps p.tables e below S0 (T2.setTop (mkF m 3 #[.val (.ref x)] [(.ref la_2), (.ref x)])) := c1.trans (st2 _ (Steps.refl _))
  obtain ⟨v3, T3, L3, X3, ⟨rfl, rfl, e3⟩, c3'⟩ := own_virt X2 hx hml hZ2 hown2 (hw _ (List.mem_of_getElem? (i := 39) rfl)) (hw _ (List.mem_of_getElem? (i := 40) rfl)) (hw _ (List.mem_of_getElem? (i := 42) rfl)) (hw _ (List.mem_of_getElem? (i := 41) rfl)) (hw _ (List.mem_of_getElem? (i := 42) rfl)) (by decide) (Q := fun v h' L => v = some (.int (Int32.ofNat ([(82 : Int32), (95 : Int32), (95 : Int32)] : List Int32).length)) ∧ L = [] ∧ h' = h2) (kc := 0) (ks := 0) (h := h2) (W := 1) (b := la_2) (argsL := []) (rest := [(.ref x)]) (StrChars.Road.lenW (s := (s.setVm T2.vm)) (R := ({ frames := 6, cells := 10, slots := 100, locals := 150 } : Room)) (W := 1) hZ2 (own_wl hw) (kI := 4) (hw _ (List.mem_of_getElem? (i := 3) rfl)) (cs := [(82 : Int32), (95 : Int32), (95 : Int32)]) Ea2 Va2 Ca2 Kb2 (StrChars.Road.codOf (n := ([(82 : Int32), (95 : Int32), (95 : Int32)] : List Int32).length) rfl (fun c hc => ((own_cons (own_Bl 82 (by decide)) (own_cons (own_Bl 95 (by decide)) (own_cons (own_Bl 95 (by decide)) own_nil))) c hc).rng.2)) (fun c hc => ((own_cons (own_Bl 82 (by decide)) (own_cons (own_Bl 95 (by decide)) (own_cons (own_Bl 95 (by decide)) own_nil))) c hc).rng2) (SC.ext (O0.ext E2).2) hz (Nat.le_of_ble_eq_true rfl) (by decide) (by decide)) Ea2 c2 rfl rfl (lenOf pd_1 rfl) rfl (by show 2 * 0 + _ ≤ _; exact Nat.le_of_eq rfl) (hb hby d7_3) e2 (by decide) (by decide)
  have N3 := Fr.app N0 (Fr.nil _)
  have c3 : Steps p.tables e below S0 (T3.setTop (mkF m 6 #[.val (.ref x)] [(.int (3 : Int32)), (.ref x)])) := c3'
  have c4 : Steps p.tables e below S0 (T3.setTop (mkF m 7 #[.val (.ref x)] [(.ref x), (.int (3 : Int32)), (.ref x)])) := c3.trans (by
    refine XS.aloadN X3.here hx rfl (hb hby d7_6) rfl rfl ?_
    exact Steps.refl _)
  obtain ⟨v5, T5, L5, X5, ⟨rfl, rfl, e5⟩, c5'⟩ := own_virt X3 hx hml hZ2 hown2 (hw _ (List.mem_of_getElem? (i := 39) rfl)) (hw _ (List.mem_of_getElem? (i := 40) rfl)) (hw _ (List.mem_of_getElem? (i := 42) rfl)) (hw _ (List.mem_of_getElem? (i := 41) rfl)) (hw _ (List.mem_of_getElem? (i := 42) rfl)) (by decide) (Q := fun v h' L => v = some (.int (Int32.ofNat ([(82 : Int32), (95 : Int32), (95 : Int32), (46 : Int32), (115 : Int32), (113 : Int32), (108 : Int32)] : List Int32).length)) ∧ L = [] ∧ h' = h2) (kc := 0) (ks := 0) (h := h2) (W := 2) (b := x) (argsL := []) (rest := [(.int (3 : Int32)), (.ref x)]) (StrChars.Road.lenW (s := (s.setVm T2.vm)) (R := ({ frames := 6, cells := 10, slots := 100, locals := 150 } : Room)) (W := 2) hZ2 (own_wl hw) (kI := 4) (hw _ (List.mem_of_getElem? (i := 3) rfl)) (cs := [(82 : Int32), (95 : Int32), (95 : Int32), (46 : Int32), (115 : Int32), (113 : Int32), (108 : Int32)]) (E.ext E2) (V.ext E2) (Cd.ext E2) (K.ext E2) (StrChars.Road.codOf (n := ([(82 : Int32), (95 : Int32), (95 : Int32), (46 : Int32), (115 : Int32), (113 : Int32), (108 : Int32)] : List Int32).length) rfl (fun c hc => ((own_cons (own_Bl 82 (by decide)) (own_cons (own_Bl 95 (by decide)) (own_cons (own_Bl 95 (by decide)) (own_cons (own_Bl 46 (by decide)) (own_cons (own_Bl 115 (by decide)) (own_cons (own_Bl 113 (by decide)) (own_cons (own_Bl 108 (by decide)) own_nil))))))) c hc).rng.2)) (fun c hc => ((own_cons (own_Bl 82 (by decide)) (own_cons (own_Bl 95 (by decide)) (own_cons (own_Bl 95 (by decide)) (own_cons (own_Bl 46 (by decide)) (own_cons (own_Bl 115 (by decide)) (own_cons (own_Bl 113 (by decide)) (own_cons (own_Bl 108 (by decide)) own_nil))))))) c hc).rng2) (SC.ext (O0.ext E2).2) hz (Nat.le_of_ble_eq_true rfl) (by decide) (by decide)) (E.ext E2) c4 rfl rfl (lenOf pd_1 rfl) rfl (by show 2 * 0 + _ ≤ _; exact Nat.le_of_eq rfl) (hb hby d7_7) e3 (by decide) (by decide)
  have N5 := Fr.app N3 (Fr.nil _)
  have c5 : Steps p.tables e below S0 (T5.setTop (mkF m 10 #[.val (.ref x)] [(.int (7 : Int32)), (.int (3 : Int32)), (.ref x)])) := c5'
  obtain ⟨la_6, T6, h6, kn6, lb_6, lk6, X6, e6, E6, hS6, hk6, hZ6, hown6, Ea6, Ca6, Va6, Kb6, la6, lb6, R6, Lt6, ne6, st6⟩ := ldcCH X5 hx hZ2 hown2 (hw _ (List.mem_of_getElem? (i := 49) rfl)) hstr e5 hS2 hk2 hEL (by decide) CR2.1 (vs := [(.int (46 : Int32)), (.int (115 : Int32)), (.int (113 : Int32)), (.int (108 : Int32))]) (z := (4 : Int32)) ⟨by decide, by decide⟩ (by decide) (by decide) (g := (mkF m 10 #[.val (.ref x)] [(.int (7 : Int32)), (.int (3 : Int32)), (.ref x)])) rfl (hb hby d7_10) (n := 16) (by decide) (by decide) (by decide) (by decide)
  have CR6 := CR2.trans R6
  have c6 : Steps p.tables e below S0 (T6.setTop (mkF m 12 #[.val (.ref x)] [(.ref la_6), (.int (7 : Int32)), (.int (3 : Int32)), (.ref x)])) := c5.trans (st6 _ (Steps.refl _))
  obtain ⟨v7, T7, L7, X7, ⟨rfl, rfl, e7⟩, c7'⟩ := own_virt X6 hx hml hZ6 hown6 (hw _ (List.mem_of_getElem? (i := 39) rfl)) (hw _ (List.mem_of_getElem? (i := 40) rfl)) (hw _ (List.mem_of_getElem? (i := 42) rfl)) (hw _ (List.mem_of_getElem? (i := 41) rfl)) (hw _ (List.mem_of_getElem? (i := 42) rfl)) (by decide) (Q := fun v h' L => v = some (.int (Int32.ofNat ([(46 : Int32), (115 : Int32), (113 : Int32), (108 : Int32)] : List Int32).length)) ∧ L = [] ∧ h' = h6) (kc := 0) (ks := 0) (h := h6) (W := 3) (b := la_6) (argsL := []) (rest := [(.int (7 : Int32)), (.int (3 : Int32)), (.ref x)]) (StrChars.Road.lenW (s := (s.setVm T6.vm)) (R := ({ frames := 6, cells := 10, slots := 100, locals := 150 } : Room)) (W := 3) hZ6 (own_wl hw) (kI := 4) (hw _ (List.mem_of_getElem? (i := 3) rfl)) (cs := [(46 : Int32), (115 : Int32), (113 : Int32), (108 : Int32)]) Ea6 Va6 Ca6 Kb6 (StrChars.Road.codOf (n := ([(46 : Int32), (115 : Int32), (113 : Int32), (108 : Int32)] : List Int32).length) rfl (fun c hc => ((own_cons (own_Bl 46 (by decide)) (own_cons (own_Bl 115 (by decide)) (own_cons (own_Bl 113 (by decide)) (own_cons (own_Bl 108 (by decide)) own_nil)))) c hc).rng.2)) (fun c hc => ((own_cons (own_Bl 46 (by decide)) (own_cons (own_Bl 115 (by decide)) (own_cons (own_Bl 113 (by decide)) (own_cons (own_Bl 108 (by decide)) own_nil)))) c hc).rng2) (SC.ext ((O0.ext E2).ext E6).2) hz (Nat.le_of_ble_eq_true rfl) (by decide) (by decide)) Ea6 c6 rfl rfl (lenOf pd_1 rfl) rfl (by show 2 * 0 + _ ≤ _; exact Nat.le_of_eq rfl) (hb hby d7_12) e6 (by decide) (by decide)
  have N7 := Fr.app N5 (Fr.nil _)
  have c7 : Steps p.tables e below S0 (T7.setTop (mkF m 15 #[.val (.ref x)] [(.int (4 : Int32)), (.int (7 : Int32)), (.int (3 : Int32)), (.ref x)])) := c7'
  have c8 : Steps p.tables e below S0 (T7.setTop (mkF m 16 #[.val (.ref x)] [(.int (3 : Int32)), (.int (3 : Int32)), (.ref x)])) := c7.trans (by
    refine XS.isub X7.here hx rfl (hb hby d7_15) rfl ?_
    exact Steps.refl _)
  obtain ⟨v9, T9, L9, X9, hS9, hZ9, hown9, R9, ⟨N9', x9, t9, kb9, rfl, K9, E9, V9, Cd9, Kb9⟩, c9'⟩ := own_wvirt X7 hx hml hZ6 hown6 hS6 hk6 (hw _ (List.mem_of_getElem? (i := 50) rfl)) (hw _ (List.mem_of_getElem? (i := 51) rfl)) (hw _ (List.mem_of_getElem? (i := 53) rfl)) (hw _ (List.mem_of_getElem? (i := 52) rfl)) (hw _ (List.mem_of_getElem? (i := 53) rfl)) (by decide) (kc := 6) (ks := 40) (h := h6) (W := 0) (b := x) (argsL := [(.int (3 : Int32)), (.int (3 : Int32))]) (rest := []) (own_wpay (W := 0) (rmSub0 l Z a0 hw hEL x t kb xa xb xc xd z fm h6 ((O0.ext E2).ext E6) ((E.ext E2).ext E6) ((V.ext E2).ext E6) ((Cd.ext E2).ext E6) ((K.ext E2).ext E6) hxa hxb hxc hxd SC hz SF hfm) hZ6 (hw _ (List.mem_of_getElem? (i := 54) rfl)) (hw _ (List.mem_of_getElem? (i := 4) rfl)) (by decide) (by decide) hEL CR6.1 all0) ((E.ext E2).ext E6) c8 rfl rfl (lenOf pd_5 rfl) rfl (by show 2 * 0 + _ ≤ _; exact Nat.le_of_eq rfl) (hb hby d7_16) e7 (by decide) (by decide)
  have N9 := Fr.app N7 N9'
  have CR9 := CR6.trans R9
  have c9 : Steps p.tables e below S0 (T9.setTop (mkF m 19 #[.val (.ref x)] [(.ref x9)])) := c9'
  refine ⟨T9, T9.vm, _, (some (.ref x9)), _, _, _, X9, by decide, by decide, (fun q => by cases q), N9, hS9, (Nat.le_refl _), hZ9, CR9, ?_, fun fs hr => ?_⟩
  · skip
    exact ⟨x9, t9, kb9, rfl, ((((Keep.refl h0 []).ext E2).ext E6).trans K9 all0), E9, V9, Cd9, Kb9⟩
  · exact own_retR X9 hx c9 hret rfl rfl (hb hby d7_19) hr
set_option maxRecDepth 65536 in
set_option maxHeartbeats 40000000 in
theorem rmCFT_3_4_8n (l : Launch) (Z : State) (a0 : Array Value) (hw : ∀ d ∈ tables_1, d.before a0 Z = true)  (h0 : Heap) (O0 : Old Z Z.heap.size h0)  :
    own_NC l Z (⟨"jdk/internal/util/Preconditions", "checkFromToIndex", "(IIILjava/util/function/BiFunction;)I"⟩ : MethodName) jdk_41_method_12_code 4 (some .int) ({ frames := 0, cells := 0, slots := 0, locals := 0 } : Room) #[(.int (3 : Int32)), (.int (4 : Int32)), (.int (8 : Int32)), .null] h0 (fun v h => v = some (.int (3 : Int32)) ∧ h = h0) := by
  refine own_nc (plainFor_of_name (by first | (simp [plainName, overriddenIn]; done) | decide +kernel)) ?_
  intro p e s m below meth c s₁ S0 X0 hx hby hml hret hnm hown hZ e0 cc
  have N0 := Fr.nil Z.heap.size
  have c0 : Steps p.tables e below S0 (s₁.setTop (mkF m 0 #[.val (.int (3 : Int32)), .val (.int (4 : Int32)), .val (.int (8 : Int32)), .val .null] [])) := cc.trans (XT.entry rfl)
  have c1 : Steps p.tables e below S0 (s₁.setTop (mkF m 23 #[.val (.int (3 : Int32)), .val (.int (4 : Int32)), .val (.int (8 : Int32)), .val .null] [(.int (3 : Int32))])) := c0.trans (by
    refine XS.iloadN X0.here hx rfl (hb hby d12_0) rfl ?_
    refine XS.ifNo X0.here hx rfl (hb hby d12_1) rfl ((if0 _ _).trans (flt (by decide : ¬ ((3 : Int32) < (0 : Int32)))).1) ?_
    refine XS.iloadN X0.here hx rfl (hb hby d12_4) rfl ?_
    refine XS.iloadN X0.here hx rfl (hb hby d12_5) rfl ?_
    refine XS.icmpNo X0.here hx rfl (hb hby d12_6) rfl (flt (by decide : ¬ ((4 : Int32) < (3 : Int32)))).2.2.1 ?_
    refine XS.iloadN X0.here hx rfl (hb hby d12_9) rfl ?_
    refine XS.iloadN X0.here hx rfl (hb hby d12_10) rfl ?_
    refine XS.icmpYes X0.here hx rfl (pc0 := 11) (pc' := 22) rfl (hb hby d12_11) rfl (flt (by decide : ¬ ((8 : Int32) < (4 : Int32)))).2.2.2 (by decide) (by decide) ?_
    refine XS.iloadN X0.here hx rfl (hb hby d12_22) rfl ?_
    exact Steps.refl _)
  refine ⟨s₁, (some (.int (3 : Int32))), _, _, _, X0, by decide, by decide, (fun q => by cases q), N0, ?_, fun fs hr => ?_⟩
  · rw [e0]
    exact ⟨rfl, rfl⟩
  · exact c1.trans (retI X0 hx hret (hb hby d12_23) hr)
set_option maxRecDepth 65536 in
set_option maxHeartbeats 40000000 in
theorem rmCFT_3_4_8r (l : Launch) (Z : State) (a0 : Array Value) (hw : ∀ d ∈ tables_1, d.before a0 Z = true) (fa : Addr) (h0 : Heap) (O0 : Old Z Z.heap.size h0)  :
    own_NC l Z (⟨"jdk/internal/util/Preconditions", "checkFromToIndex", "(IIILjava/util/function/BiFunction;)I"⟩ : MethodName) jdk_41_method_12_code 4 (some .int) ({ frames := 0, cells := 0, slots := 0, locals := 0 } : Room) #[(.int (3 : Int32)), (.int (4 : Int32)), (.int (8 : Int32)), (.ref fa)] h0 (fun v h => v = some (.int (3 : Int32)) ∧ h = h0) := by
  refine own_nc (plainFor_of_name (by first | (simp [plainName, overriddenIn]; done) | decide +kernel)) ?_
  intro p e s m below meth c s₁ S0 X0 hx hby hml hret hnm hown hZ e0 cc
  have N0 := Fr.nil Z.heap.size
  have c0 : Steps p.tables e below S0 (s₁.setTop (mkF m 0 #[.val (.int (3 : Int32)), .val (.int (4 : Int32)), .val (.int (8 : Int32)), .val (.ref fa)] [])) := cc.trans (XT.entry rfl)
  have c1 : Steps p.tables e below S0 (s₁.setTop (mkF m 23 #[.val (.int (3 : Int32)), .val (.int (4 : Int32)), .val (.int (8 : Int32)), .val (.ref fa)] [(.int (3 : Int32))])) := c0.trans (by
    refine XS.iloadN X0.here hx rfl (hb hby d12_0) rfl ?_
    refine XS.ifNo X0.here hx rfl (hb hby d12_1) rfl ((if0 _ _).trans (flt (by decide : ¬ ((3 : Int32) < (0 : Int32)))).1) ?_
    refine XS.iloadN X0.here hx rfl (hb hby d12_4) rfl ?_
    refine XS.iloadN X0.here hx rfl (hb hby d12_5) rfl ?_
    refine XS.icmpNo X0.here hx rfl (hb hby d12_6) rfl (flt (by decide : ¬ ((4 : Int32) < (3 : Int32)))).2.2.1 ?_
    refine XS.iloadN X0.here hx rfl (hb hby d12_9) rfl ?_
    refine XS.iloadN X0.here hx rfl (hb hby d12_10) rfl ?_
    refine XS.icmpYes X0.here hx rfl (pc0 := 11) (pc' := 22) rfl (hb hby d12_11) rfl (flt (by decide : ¬ ((8 : Int32) < (4 : Int32)))).2.2.2 (by decide) (by decide) ?_
    refine XS.iloadN X0.here hx rfl (hb hby d12_22) rfl ?_
    exact Steps.refl _)
  refine ⟨s₁, (some (.int (3 : Int32))), _, _, _, X0, by decide, by decide, (fun q => by cases q), N0, ?_, fun fs hr => ?_⟩
  · rw [e0]
    exact ⟨rfl, rfl⟩
  · exact c1.trans (retI X0 hx hret (hb hby d12_23) hr)
theorem rmCFT_3_4_8 (l : Launch) (Z : State) (a0 : Array Value) (hw : ∀ d ∈ tables_1, d.before a0 Z = true) (fm : Value) (h0 : Heap) (O0 : Old Z Z.heap.size h0) (hfm : fm.isRef = true) : own_NC l Z (⟨"jdk/internal/util/Preconditions", "checkFromToIndex", "(IIILjava/util/function/BiFunction;)I"⟩ : MethodName) jdk_41_method_12_code 4 (some .int) ({ frames := 0, cells := 0, slots := 0, locals := 0 } : Room) #[(.int (3 : Int32)), (.int (4 : Int32)), (.int (8 : Int32)), fm] h0 (fun v h => v = some (.int (3 : Int32)) ∧ h = h0) := by
  rcases ref_cases hfm with rfl | ⟨fa, rfl⟩
  · exact rmCFT_3_4_8n l Z a0 hw h0 O0
  · exact rmCFT_3_4_8r l Z a0 hw fa h0 O0
set_option maxRecDepth 65536 in
set_option maxHeartbeats 40000000 in
theorem rmCBE1 (l : Launch) (Z : State) (a0 : Array Value) (hw : ∀ d ∈ tables_1, d.before a0 Z = true) (z : Int32) (fm : Value) (h0 : Heap) (O0 : Old Z Z.heap.size h0) (SC : Sta Z Z.heap "java/lang/String" "COMPACT_STRINGS" "Z" (.int z)) (hz : ¬ z = 0) (SF : Sta Z Z.heap "jdk/internal/util/Preconditions" "SIOOBE_FORMATTER" "Ljava/util/function/BiFunction;" fm) (hfm : fm.isRef = true) :
    own_NC l Z (⟨"java/lang/String", "checkBoundsBeginEnd", "(III)V"⟩ : MethodName) jdk_42_method_158_code 3 none ({ frames := 1, cells := 0, slots := 0, locals := 20 } : Room) #[(.int (3 : Int32)), (.int (4 : Int32)), (.int (8 : Int32))] h0 (fun v h => v = none ∧ h = h0) := by
  refine own_nc (plainFor_of_name (by first | (simp [plainName, overriddenIn]; done) | decide +kernel)) ?_
  intro p e s m below meth c s₁ S0 X0 hx hby hml hret hnm hown hZ e0 cc
  have N0 := Fr.nil Z.heap.size
  have c0 : Steps p.tables e below S0 (s₁.setTop (mkF m 0 #[.val (.int (3 : Int32)), .val (.int (4 : Int32)), .val (.int (8 : Int32))] [])) := cc.trans (XT.entry rfl)
  have c1 : Steps p.tables e below S0 (s₁.setTop (mkF m 3 #[.val (.int (3 : Int32)), .val (.int (4 : Int32)), .val (.int (8 : Int32))] [(.int (8 : Int32)), (.int (4 : Int32)), (.int (3 : Int32))])) := c0.trans (by
    refine XS.iloadN X0.here hx rfl (hb hby d11_0) rfl ?_
    refine XS.iloadN X0.here hx rfl (hb hby d11_1) rfl ?_
    refine XS.iloadN X0.here hx rfl (hb hby d11_2) rfl ?_
    exact Steps.refl _)
  obtain ⟨T2, X2, e2, st2⟩ := getS2 X0 hx hZ hown (host := "") (Or.inl (hw _ (List.mem_of_getElem? (i := 59) rfl))) Via.refl e0 (SF.ext O0.2) (g := (mkF m 3 #[.val (.int (3 : Int32)), .val (.int (4 : Int32)), .val (.int (8 : Int32))] [(.int (8 : Int32)), (.int (4 : Int32)), (.int (3 : Int32))])) rfl (hb hby d11_3)
  have c2 : Steps p.tables e below S0 (T2.setTop (mkF m 6 #[.val (.int (3 : Int32)), .val (.int (4 : Int32)), .val (.int (8 : Int32))] [fm, (.int (8 : Int32)), (.int (4 : Int32)), (.int (3 : Int32))])) := c1.trans (st2 _ (Steps.refl _))
  obtain ⟨v3, T3, L3, X3, ⟨N3', rfl, e3⟩, c3'⟩ := own_stat X2 hx hml hZ hown (hw _ (List.mem_of_getElem? (i := 61) rfl)) (hw _ (List.mem_of_getElem? (i := 62) rfl)) (hw _ (List.mem_of_getElem? (i := 60) rfl)) (hw _ (List.mem_of_getElem? (i := 63) rfl)) (by decide) (kc := 0) (ks := 0) (h := h0) (W := 0) (argsL := [(.int (3 : Int32)), (.int (4 : Int32)), (.int (8 : Int32)), fm]) (rest := []) (own_pay (W := 0) (rmCFT_3_4_8 l Z a0 hw fm h0 O0 hfm) hZ (hw _ (List.mem_of_getElem? (i := 63) rfl)) (hw _ (List.mem_of_getElem? (i := 60) rfl)) (by decide) (by decide)) c2 rfl rfl (lenOf pd_0 rfl) rfl (by show 2 * 0 + _ ≤ _; exact Nat.le_of_eq rfl) (hb hby d11_6) e2 (by decide) (by decide)
  have N3 := Fr.app N0 N3'
  have c3 : Steps p.tables e below S0 (T3.setTop (mkF m 9 #[.val (.int (3 : Int32)), .val (.int (4 : Int32)), .val (.int (8 : Int32))] [(.int (3 : Int32))])) := c3'
  have c4 : Steps p.tables e below S0 (T3.setTop (mkF m 10 #[.val (.int (3 : Int32)), .val (.int (4 : Int32)), .val (.int (8 : Int32))] [])) := c3.trans (by
    refine XS.pop X3.here hx rfl (hb hby d11_9) rfl rfl ?_
    exact Steps.refl _)
  refine ⟨T3, none, _, _, _, X3, by decide, by decide, (fun _ => rfl), N3, ?_, fun fs hr => ?_⟩
  · rw [e3]
    exact ⟨rfl, rfl⟩
  · exact c4.trans (X3.returnOut hx hret (hb hby d11_10) hr)
set_option maxRecDepth 65536 in
set_option maxHeartbeats 40000000 in
theorem rmCL1 (l : Launch) (Z : State) (a0 : Array Value) (hw : ∀ d ∈ tables_1, d.before a0 Z = true)  (h0 : Heap) (O0 : Old Z Z.heap.size h0)  :
    own_NC l Z (⟨"java/util/Arrays", "checkLength", "(II)V"⟩ : MethodName) jdk_65_method_131_code 2 none ({ frames := 0, cells := 0, slots := 0, locals := 0 } : Room) #[(.int (3 : Int32)), (.int (4 : Int32))] h0 (fun v h => v = none ∧ h = h0) := by
  refine own_nc (plainFor_of_name (by first | (simp [plainName, overriddenIn]; done) | decide +kernel)) ?_
  intro p e s m below meth c s₁ S0 X0 hx hby hml hret hnm hown hZ e0 cc
  have N0 := Fr.nil Z.heap.size
  have c0 : Steps p.tables e below S0 (s₁.setTop (mkF m 0 #[.val (.int (3 : Int32)), .val (.int (4 : Int32))] [])) := cc.trans (XT.entry rfl)
  have c1 : Steps p.tables e below S0 (s₁.setTop (mkF m 37 #[.val (.int (3 : Int32)), .val (.int (4 : Int32))] [])) := c0.trans (by
    refine XS.iloadN X0.here hx rfl (hb hby d19_0) rfl ?_
    refine XS.iloadN X0.here hx rfl (hb hby d19_1) rfl ?_
    refine XS.icmpYes X0.here hx rfl (pc0 := 2) (pc' := 37) rfl (hb hby d19_2) rfl (flt (by decide : ¬ ((4 : Int32) < (3 : Int32)))).2.1 (by decide) (by decide) ?_
    exact Steps.refl _)
  refine ⟨s₁, none, _, _, _, X0, by decide, by decide, (fun _ => rfl), N0, ?_, fun fs hr => ?_⟩
  · rw [e0]
    exact ⟨rfl, rfl⟩
  · exact c1.trans (X0.returnOut hx hret (hb hby d19_37) hr)
set_option maxRecDepth 65536 in
set_option maxHeartbeats 40000000 in
theorem rmMin_5_1 (l : Launch) (Z : State) (a0 : Array Value) (hw : ∀ d ∈ tables_1, d.before a0 Z = true)  (h0 : Heap) (O0 : Old Z Z.heap.size h0)  :
    own_NC l Z (⟨"java/lang/Math", "min", "(II)I"⟩ : MethodName) jdk_29_method_69_code 2 (some .int) ({ frames := 0, cells := 0, slots := 0, locals := 0 } : Room) #[(.int (5 : Int32)), (.int (1 : Int32))] h0 (fun v h => v = some (.int (1 : Int32)) ∧ h = h0) := by
  refine own_nc (Jvm.Free.JP.mathPlain rfl (by decide +kernel)) ?_
  intro p e s m below meth c s₁ S0 X0 hx hby hml hret hnm hown hZ e0 cc
  have N0 := Fr.nil Z.heap.size
  have c0 : Steps p.tables e below S0 (s₁.setTop (mkF m 0 #[.val (.int (5 : Int32)), .val (.int (1 : Int32))] [])) := cc.trans (XT.entry rfl)
  have c1 : Steps p.tables e below S0 (s₁.setTop (mkF m 10 #[.val (.int (5 : Int32)), .val (.int (1 : Int32))] [(.int (1 : Int32))])) := c0.trans (by
    refine XS.iloadN X0.here hx rfl (hb hby d20_0) rfl ?_
    refine XS.iloadN X0.here hx rfl (hb hby d20_1) rfl ?_
    refine XS.icmpYes X0.here hx rfl (pc0 := 2) (pc' := 9) rfl (hb hby d20_2) rfl (tlt (by decide : (1 : Int32) < (5 : Int32))).2.2.1 (by decide) (by decide) ?_
    refine XS.iloadN X0.here hx rfl (hb hby d20_9) rfl ?_
    exact Steps.refl _)
  refine ⟨s₁, (some (.int (1 : Int32))), _, _, _, X0, by decide, by decide, (fun q => by cases q), N0, ?_, fun fs hr => ?_⟩
  · rw [e0]
    exact ⟨rfl, rfl⟩
  · exact c1.trans (retI X0 hx hret (hb hby d20_10) hr)
set_option maxRecDepth 65536 in
set_option maxHeartbeats 40000000 in
theorem rmCORB1 (l : Launch) (Z : State) (a0 : Array Value) (hw : ∀ d ∈ tables_1, d.before a0 Z = true) (t : Addr) (kb : ClassId) (xa xb xc xd : Int32) (h0 : Heap) (O0 : Old Z Z.heap.size h0) (Kt : Arv Z h0 t kb .byte (8 : Int32) [(.int (82 : Int32)), (.int (95 : Int32)), (.int (95 : Int32)), (.int (xa.toInt8.toInt32)), (.int (46 : Int32)), (.int (115 : Int32)), (.int (113 : Int32)), (.int (108 : Int32))] (.int (0 : Int32))) :
    own_NC l Z (⟨"java/util/Arrays", "copyOfRangeByte", "([BII)[B"⟩ : MethodName) jdk_65_method_133_code 5 (some (.array .byte)) ({ frames := 1, cells := 1, slots := 1, locals := 40 } : Room) #[(.ref t), (.int (3 : Int32)), (.int (4 : Int32))] h0 (fun v h => ∃ (u : Addr) (ku : ClassId), v = some (.ref u) ∧ Keep h0 h [] ∧ h0.size ≤ u ∧ Arv Z h u ku .byte (1 : Int32) [(.int (xa.toInt8.toInt32))] (.int (0 : Int32))) := by
  refine own_nc (plainFor_of_name (by first | (simp [plainName, overriddenIn]; done) | decide +kernel)) ?_
  intro p e s m below meth c s₁ S0 X0 hx hby hml hret hnm hown hZ e0 cc
  have N0 := Fr.nil Z.heap.size
  have c0 : Steps p.tables e below S0 (s₁.setTop (mkF m 0 #[.val (.ref t), .val (.int (3 : Int32)), .val (.int (4 : Int32)), .unset, .unset] [])) := cc.trans (XT.entry rfl)
  have c1 : Steps p.tables e below S0 (s₁.setTop (mkF m 2 #[.val (.ref t), .val (.int (3 : Int32)), .val (.int (4 : Int32)), .unset, .unset] [(.int (4 : Int32)), (.int (3 : Int32))])) := c0.trans (by
    refine XS.iloadN X0.here hx rfl (hb hby d18_0) rfl ?_
    refine XS.iloadN X0.here hx rfl (hb hby d18_1) rfl ?_
    exact Steps.refl _)
  obtain ⟨v2, T2, L2, X2, ⟨N2', rfl, e2⟩, c2'⟩ := own_stat X0 hx hml hZ hown (hw _ (List.mem_of_getElem? (i := 91) rfl)) (hw _ (List.mem_of_getElem? (i := 92) rfl)) (hw _ (List.mem_of_getElem? (i := 86) rfl)) (hw _ (List.mem_of_getElem? (i := 93) rfl)) (by decide) (kc := 0) (ks := 0) (h := h0) (W := 0) (argsL := [(.int (3 : Int32)), (.int (4 : Int32))]) (rest := []) (own_pay (W := 0) (rmCL1 l Z a0 hw h0 O0) hZ (hw _ (List.mem_of_getElem? (i := 93) rfl)) (hw _ (List.mem_of_getElem? (i := 86) rfl)) (by decide) (by decide)) c1 rfl rfl (lenOf pd_6 rfl) rfl (by show 2 * 0 + _ ≤ _; exact Nat.le_of_eq rfl) (hb hby d18_2) e0 (by decide) (by decide)
  have N2 := Fr.app N0 N2'
  have c2 : Steps p.tables e below S0 (T2.setTop (mkF m 5 #[.val (.ref t), .val (.int (3 : Int32)), .val (.int (4 : Int32)), .unset, .unset] [])) := c2'
  have c3 : Steps p.tables e below S0 (T2.setTop (mkF m 10 #[.val (.ref t), .val (.int (3 : Int32)), .val (.int (4 : Int32)), .val (.int (1 : Int32)), .unset] [(.int (1 : Int32))])) := c2.trans (by
    refine XS.iloadN X2.here hx rfl (hb hby d18_5) rfl ?_
    refine XS.iloadN X2.here hx rfl (hb hby d18_6) rfl ?_
    refine XS.isub X2.here hx rfl (hb hby d18_7) rfl ?_
    refine XS.istoreN X2.here hx rfl (hb hby d18_8) rfl (l' := #[.val (.ref t), .val (.int (3 : Int32)), .val (.int (4 : Int32)), .val (.int (1 : Int32)), .unset]) rfl ?_
    refine XS.iloadN X2.here hx rfl (hb hby d18_9) rfl ?_
    exact Steps.refl _)
  obtain ⟨T4, h4, k4, X4, e4, E4, A4, st4⟩ := newP X2 hx hZ (hw _ (List.mem_of_getElem? (i := 20) rfl)) e2 (g := (mkF m 10 #[.val (.ref t), .val (.int (3 : Int32)), .val (.int (4 : Int32)), .val (.int (1 : Int32)), .unset] [(.int (1 : Int32))])) rfl (hb hby d18_10) rfl (by decide) (cap := 1) (by decide) (by decide) (by decide) (by decide)
  obtain ⟨b4, g4⟩ : ∃ z, z = h0.size := ⟨_, rfl⟩
  rw [← g4] at A4 st4
  have lo4 : h0.size ≤ b4 := Nat.le_of_eq g4.symm
  have ge4 : Z.heap.size ≤ b4 := Nat.le_trans O0.2.1 lo4
  have V4 := Arv.new A4 (by decide)
  have V4a : Arv Z h4 b4 k4 .byte (1 : Int32) [(.int (0 : Int32))] (.int (0 : Int32)) := V4.pad (pad_rep [] (.int (0 : Int32)) 1)
  have c4 : Steps p.tables e below S0 (T4.setTop (mkF m 12 #[.val (.ref t), .val (.int (3 : Int32)), .val (.int (4 : Int32)), .val (.int (1 : Int32)), .unset] [(.ref b4)])) := c3.trans (st4 _ (Steps.refl _))
  have c5 : Steps p.tables e below S0 (T4.setTop (mkF m 20 #[.val (.ref t), .val (.int (3 : Int32)), .val (.int (4 : Int32)), .val (.int (1 : Int32)), .val (.ref b4)] [(.ref t), (.int (0 : Int32)), (.ref b4), (.int (3 : Int32)), (.ref t)])) := c4.trans (by
    refine XS.astore X4.here hx rfl (hb hby d18_12) rfl rfl (l' := #[.val (.ref t), .val (.int (3 : Int32)), .val (.int (4 : Int32)), .val (.int (1 : Int32)), .val (.ref b4)]) rfl ?_
    refine XS.aloadN X4.here hx rfl (hb hby d18_14) rfl rfl ?_
    refine XS.iloadN X4.here hx rfl (hb hby d18_15) rfl ?_
    refine XS.aload X4.here hx rfl (hb hby d18_16) rfl rfl ?_
    refine XS.iconst X4.here hx rfl (hb hby d18_18) ?_
    refine XS.aloadN X4.here hx rfl (hb hby d18_19) rfl rfl ?_
    exact Steps.refl _)
  obtain ⟨cl6, Ar6, q6, S6, M6, H6, G6⟩ := id (Kt.ext E4)
  have c6 : Steps p.tables e below S0 (T4.setTop (mkF m 21 #[.val (.ref t), .val (.int (3 : Int32)), .val (.int (4 : Int32)), .val (.int (1 : Int32)), .val (.ref b4)] [(.int (8 : Int32)), (.int (0 : Int32)), (.ref b4), (.int (3 : Int32)), (.ref t)])) := c5.trans (by
    refine X4.arraylength hx (by rw [show T4.heap = h4 from e4]; exact Ar6.1) (State.isArrayOf_alike (hZ).alike Ar6.2.1) (g := (mkF m 20 #[.val (.ref t), .val (.int (3 : Int32)), .val (.int (4 : Int32)), .val (.int (1 : Int32)), .val (.ref b4)] [(.ref t), (.int (0 : Int32)), (.ref b4), (.int (3 : Int32)), (.ref t)])) rfl rfl (hb hby d18_20) _ ?_
    rw [len_of S6 M6]
    exact Steps.refl _)
  have c7 : Steps p.tables e below S0 (T4.setTop (mkF m 24 #[.val (.ref t), .val (.int (3 : Int32)), .val (.int (4 : Int32)), .val (.int (1 : Int32)), .val (.ref b4)] [(.int (1 : Int32)), (.int (5 : Int32)), (.int (0 : Int32)), (.ref b4), (.int (3 : Int32)), (.ref t)])) := c6.trans (by
    refine XS.iloadN X4.here hx rfl (hb hby d18_21) rfl ?_
    refine XS.isub X4.here hx rfl (hb hby d18_22) rfl ?_
    refine XS.iloadN X4.here hx rfl (hb hby d18_23) rfl ?_
    exact Steps.refl _)
  obtain ⟨v8, T8, L8, X8, ⟨N8', rfl, e8⟩, c8'⟩ := own_stat X4 hx hml hZ hown (hw _ (List.mem_of_getElem? (i := 94) rfl)) (hw _ (List.mem_of_getElem? (i := 95) rfl)) (hw _ (List.mem_of_getElem? (i := 96) rfl)) (hw _ (List.mem_of_getElem? (i := 97) rfl)) (by decide) (kc := 0) (ks := 0) (h := h4) (W := 4) (argsL := [(.int (5 : Int32)), (.int (1 : Int32))]) (rest := [(.int (0 : Int32)), (.ref b4), (.int (3 : Int32)), (.ref t)]) (own_pay (W := 4) (rmMin_5_1 l Z a0 hw h4 (O0.ext E4)) hZ (hw _ (List.mem_of_getElem? (i := 97) rfl)) (hw _ (List.mem_of_getElem? (i := 96) rfl)) (by decide) (by decide)) c7 rfl rfl (lenOf pd_7 rfl) rfl (by show 2 * 0 + _ ≤ _; exact Nat.le_of_eq rfl) (hb hby d18_24) e4 (by decide) (by decide)
  have N8 := Fr.app N2 N8'
  have c8 : Steps p.tables e below S0 (T8.setTop (mkF m 27 #[.val (.ref t), .val (.int (3 : Int32)), .val (.int (4 : Int32)), .val (.int (1 : Int32)), .val (.ref b4)] [(.int (1 : Int32)), (.int (0 : Int32)), (.ref b4), (.int (3 : Int32)), (.ref t)])) := c8'
  obtain ⟨T9, h9, L9, X9, e9, N9, K9, V9, st9⟩ := cpA X8 hx hZ hown (hw _ (List.mem_of_getElem? (i := 98) rfl)) (hw _ (List.mem_of_getElem? (i := 101) rfl)) (hw _ (List.mem_of_getElem? (i := 99) rfl)) (hw _ (List.mem_of_getElem? (i := 100) rfl)) e8 (us := [(.int (xa.toInt8.toInt32))]) (Kt.ext E4) V4a (Or.inl ⟨rfl, rfl⟩) (by decide) (by decide) (by decide) (by decide) (by decide) rfl (by decide) N8 ge4 (g := (mkF m 27 #[.val (.ref t), .val (.int (3 : Int32)), .val (.int (4 : Int32)), .val (.int (1 : Int32)), .val (.ref b4)] [(.int (1 : Int32)), (.int (0 : Int32)), (.ref b4), (.int (3 : Int32)), (.ref t)])) rfl (by rw [hml]; rfl) rfl (hb hby d18_27) (by decide) (W := 0) (by show 2 * 0 + _ ≤ _; exact Nat.le_of_eq rfl) (by decide)
  have V9a : Arv Z h9 b4 k4 .byte (1 : Int32) [(.int (xa.toInt8.toInt32))] (.int (0 : Int32)) := V9
  have c9 : Steps p.tables e below S0 (T9.setTop (mkF m 30 #[.val (.ref t), .val (.int (3 : Int32)), .val (.int (4 : Int32)), .val (.int (1 : Int32)), .val (.ref b4)] [])) := c8.trans (st9 _ (Steps.refl _))
  have c10 : Steps p.tables e below S0 (T9.setTop (mkF m 32 #[.val (.ref t), .val (.int (3 : Int32)), .val (.int (4 : Int32)), .val (.int (1 : Int32)), .val (.ref b4)] [(.ref b4)])) := c9.trans (by
    refine XS.aload X9.here hx rfl (hb hby d18_30) rfl rfl ?_
    exact Steps.refl _)
  refine ⟨T9, (some (.ref b4)), _, _, _, X9, by decide, by decide, (fun q => by cases q), N9, ?_, fun fs hr => ?_⟩
  · rw [e9]
    exact ⟨b4, k4, rfl, (((Keep.refl h0 []).ext E4).trans K9 (allS (Or.inr (Nat.le_trans (Keep.refl h0 []).1 lo4)) all0)), (Nat.le_trans (Keep.refl h0 []).1 lo4), V9a⟩
  · exact own_retR X9 hx c10 hret rfl rfl (hb hby d18_32) hr
set_option maxRecDepth 65536 in
set_option maxHeartbeats 40000000 in
theorem rmCOR1 (l : Launch) (Z : State) (a0 : Array Value) (hw : ∀ d ∈ tables_1, d.before a0 Z = true) (t : Addr) (kb : ClassId) (xa xb xc xd : Int32) (h0 : Heap) (O0 : Old Z Z.heap.size h0) (Kt : Arv Z h0 t kb .byte (8 : Int32) [(.int (82 : Int32)), (.int (95 : Int32)), (.int (95 : Int32)), (.int (xa.toInt8.toInt32)), (.int (46 : Int32)), (.int (115 : Int32)), (.int (113 : Int32)), (.int (108 : Int32))] (.int (0 : Int32))) :
    own_NC l Z (⟨"java/util/Arrays", "copyOfRange", "([BII)[B"⟩ : MethodName) jdk_65_method_132_code 3 (some (.array .byte)) ({ frames := 2, cells := 1, slots := 1, locals := 60 } : Room) #[(.ref t), (.int (3 : Int32)), (.int (4 : Int32))] h0 (fun v h => ∃ (u : Addr) (ku : ClassId), v = some (.ref u) ∧ Keep h0 h [] ∧ h0.size ≤ u ∧ Arv Z h u ku .byte (1 : Int32) [(.int (xa.toInt8.toInt32))] (.int (0 : Int32))) := by
  refine own_nc (plainFor_of_name (by first | (simp [plainName, overriddenIn]; done) | decide +kernel)) ?_
  intro p e s m below meth c s₁ S0 X0 hx hby hml hret hnm hown hZ e0 cc
  have N0 := Fr.nil Z.heap.size
  have c0 : Steps p.tables e below S0 (s₁.setTop (mkF m 0 #[.val (.ref t), .val (.int (3 : Int32)), .val (.int (4 : Int32))] [])) := cc.trans (XT.entry rfl)
  have c1 : Steps p.tables e below S0 (s₁.setTop (mkF m 13 #[.val (.ref t), .val (.int (3 : Int32)), .val (.int (4 : Int32))] [(.int (4 : Int32)), (.int (3 : Int32)), (.ref t)])) := c0.trans (by
    refine XS.iloadN X0.here hx rfl (hb hby d17_0) rfl ?_
    refine XS.ifYes X0.here hx rfl (pc0 := 1) (pc' := 10) rfl (hb hby d17_1) rfl ((if0 _ _).trans (feq (by decide : ¬ ((3 : Int32) = (0 : Int32)))).2) (by decide) (by decide) ?_
    refine XS.aloadN X0.here hx rfl (hb hby d17_10) rfl rfl ?_
    refine XS.iloadN X0.here hx rfl (hb hby d17_11) rfl ?_
    refine XS.iloadN X0.here hx rfl (hb hby d17_12) rfl ?_
    exact Steps.refl _)
  obtain ⟨v2, T2, L2, X2, ⟨N2', u2, ku2, rfl, K2, lo2, Ku2⟩, c2'⟩ := own_stat X0 hx hml hZ hown (hw _ (List.mem_of_getElem? (i := 88) rfl)) (hw _ (List.mem_of_getElem? (i := 89) rfl)) (hw _ (List.mem_of_getElem? (i := 86) rfl)) (hw _ (List.mem_of_getElem? (i := 90) rfl)) (by decide) (kc := 1) (ks := 1) (h := h0) (W := 0) (argsL := [(.ref t), (.int (3 : Int32)), (.int (4 : Int32))]) (rest := []) (own_pay (W := 0) (rmCORB1 l Z a0 hw t kb xa xb xc xd h0 O0 Kt) hZ (hw _ (List.mem_of_getElem? (i := 90) rfl)) (hw _ (List.mem_of_getElem? (i := 86) rfl)) (by decide) (by decide)) c1 rfl rfl (lenOf pd_8 rfl) rfl (by show 2 * 0 + _ ≤ _; exact Nat.le_of_eq rfl) (hb hby d17_13) e0 (by decide) (by decide)
  have N2 := Fr.app N0 N2'
  have c2 : Steps p.tables e below S0 (T2.setTop (mkF m 16 #[.val (.ref t), .val (.int (3 : Int32)), .val (.int (4 : Int32))] [(.ref u2)])) := c2'
  refine ⟨T2, (some (.ref u2)), _, _, _, X2, by decide, by decide, (fun q => by cases q), N2, ?_, fun fs hr => ?_⟩
  · skip
    exact ⟨u2, ku2, rfl, ((Keep.refl h0 []).trans K2 all0), (Nat.le_trans (Keep.refl h0 []).1 lo2), Ku2⟩
  · exact own_retR X2 hx c2 hret rfl rfl (hb hby d17_16) hr
set_option maxRecDepth 65536 in
set_option maxHeartbeats 40000000 in
theorem rmIB (l : Launch) (Z : State) (a0 : Array Value) (hw : ∀ d ∈ tables_1, d.before a0 Z = true) (x t : Addr) (u1 u2 : Value) (h0 : Heap) (O0 : Old Z Z.heap.size h0) (E : Exa Z h0 x "java/lang/String") (V : Fld Z h0 x "java/lang/String" "value" "[B" u1) (Cd : Fld Z h0 x "java/lang/String" "coder" "B" u2) (gx : Z.heap.size ≤ x) :
    own_NC l Z (⟨"java/lang/String", "<init>", "([BB)V"⟩ : MethodName) jdk_42_method_151_code 3 none ({ frames := 1, cells := 0, slots := 0, locals := 12 } : Room) #[(.ref x), (.ref t), (.int (0 : Int32))] h0 (fun v h => v = none ∧ Keep h0 h [x] ∧ Exa Z h x "java/lang/String" ∧ Fld Z h x "java/lang/String" "value" "[B" (.ref t) ∧ Fld Z h x "java/lang/String" "coder" "B" (.int (0 : Int32))) := by
  refine own_nc (plainFor_of_name (by first | (simp [plainName, overriddenIn]; done) | decide +kernel)) ?_
  intro p e s m below meth c s₁ S0 X0 hx hby hml hret hnm hown hZ e0 cc
  have N0 := Fr.nil Z.heap.size
  have c0 : Steps p.tables e below S0 (s₁.setTop (mkF m 0 #[.val (.ref x), .val (.ref t), .val (.int (0 : Int32))] [])) := cc.trans (XT.entry rfl)
  have c1 : Steps p.tables e below S0 (s₁.setTop (mkF m 1 #[.val (.ref x), .val (.ref t), .val (.int (0 : Int32))] [(.ref x)])) := c0.trans (by
    refine XS.aloadN X0.here hx rfl (hb hby d21_0) rfl rfl ?_
    exact Steps.refl _)
  obtain ⟨T2, X2, e2, st2⟩ := initO X0 hx hZ hown (hw _ (List.mem_of_getElem? (i := 12) rfl)) (hw _ (List.mem_of_getElem? (i := 13) rfl)) (hw _ (List.mem_of_getElem? (i := 14) rfl)) e0 (g := (mkF m 1 #[.val (.ref x), .val (.ref t), .val (.int (0 : Int32))] [(.ref x)])) rfl (by rw [hml]; rfl) rfl (hb hby d21_1) (by decide) (W := 0) (by show 2 * 0 + _ ≤ _; exact Nat.le_of_eq rfl) (by decide)
  have c2 : Steps p.tables e below S0 (T2.setTop (mkF m 4 #[.val (.ref x), .val (.ref t), .val (.int (0 : Int32))] [])) := c1.trans (st2 _ (Steps.refl _))
  have c3 : Steps p.tables e below S0 (T2.setTop (mkF m 6 #[.val (.ref x), .val (.ref t), .val (.int (0 : Int32))] [(.ref t), (.ref x)])) := c2.trans (by
    refine XS.aloadN X2.here hx rfl (hb hby d21_4) rfl rfl ?_
    refine XS.aloadN X2.here hx rfl (hb hby d21_5) rfl rfl ?_
    exact Steps.refl _)
  obtain ⟨T4, h4, X4, e4, W4, st4⟩ := putF X2 hx hZ hown (host := "") (Or.inl (hw _ (List.mem_of_getElem? (i := 29) rfl))) Via.refl e2 V E (Or.inr ⟨(hw _ (List.mem_of_getElem? (i := 30) rfl)), rfl, hnm⟩) (hw _ (List.mem_of_getElem? (i := 3) rfl)) (ty := (.array .byte)) (by decide) rfl rfl (g := (mkF m 6 #[.val (.ref x), .val (.ref t), .val (.int (0 : Int32))] [(.ref t), (.ref x)])) rfl rfl (hb hby d21_6)
  have N4 := Fr.snoc X4 N0 gx
  have Fw4 := V.same W4
  have c4 : Steps p.tables e below S0 (T4.setTop (mkF m 9 #[.val (.ref x), .val (.ref t), .val (.int (0 : Int32))] [])) := c3.trans (st4 _ (Steps.refl _))
  have c5 : Steps p.tables e below S0 (T4.setTop (mkF m 11 #[.val (.ref x), .val (.ref t), .val (.int (0 : Int32))] [(.int (0 : Int32)), (.ref x)])) := c4.trans (by
    refine XS.aloadN X4.here hx rfl (hb hby d21_9) rfl rfl ?_
    refine XS.iloadN X4.here hx rfl (hb hby d21_10) rfl ?_
    exact Steps.refl _)
  obtain ⟨T6, h6, X6, e6, W6, st6⟩ := putFN X4 hx hZ hown (hw _ (List.mem_of_getElem? (i := 27) rfl)) Via.refl e4 (Cd.other W4 (Or.inr (slot_ne (Or.inr (hw _ (List.mem_of_getElem? (i := 28) rfl))) (Or.inr (hw _ (List.mem_of_getElem? (i := 30) rfl))) (by decide) (t := .byte) (t' := (.array .byte)) (by decide) (by decide)))) (E.wr W4) (Or.inr ⟨(hw _ (List.mem_of_getElem? (i := 28) rfl)), rfl, hnm⟩) (hw _ (List.mem_of_getElem? (i := 3) rfl)) (ty := .byte) (v' := (.int (0 : Int32))) (by decide) rfl rfl (g := (mkF m 11 #[.val (.ref x), .val (.ref t), .val (.int (0 : Int32))] [(.int (0 : Int32)), (.ref x)])) rfl rfl (hb hby d21_11)
  have N6 := Fr.snoc X6 N4 gx
  have Fw6 := (Cd.other W4 (Or.inr (slot_ne (Or.inr (hw _ (List.mem_of_getElem? (i := 28) rfl))) (Or.inr (hw _ (List.mem_of_getElem? (i := 30) rfl))) (by decide) (t := .byte) (t' := (.array .byte)) (by decide) (by decide)))).same W6
  have c6 : Steps p.tables e below S0 (T6.setTop (mkF m 14 #[.val (.ref x), .val (.ref t), .val (.int (0 : Int32))] [])) := c5.trans (st6 _ (Steps.refl _))
  refine ⟨T6, none, _, _, _, X6, by decide, by decide, (fun _ => rfl), N6, ?_, fun fs hr => ?_⟩
  · rw [e6]
    exact ⟨rfl, (((Keep.refl h0 [x]).wr W4 (Or.inl (List.mem_of_getElem? (i := 0) rfl))).wr W6 (Or.inl (List.mem_of_getElem? (i := 0) rfl))), ((E.wr W4).wr W6), (Fw4.other W6 (Or.inr (slot_ne (Or.inr (hw _ (List.mem_of_getElem? (i := 30) rfl))) (Or.inr (hw _ (List.mem_of_getElem? (i := 28) rfl))) (by decide) (t := (.array .byte)) (t' := .byte) (by decide) (by decide)))), Fw6⟩
  · exact c6.trans (X6.returnOut hx hret (hb hby d21_14) hr)
set_option maxRecDepth 65536 in
set_option maxHeartbeats 40000000 in
theorem rmNS1 (l : Launch) (Z : State) (a0 : Array Value) (hw : ∀ d ∈ tables_1, d.before a0 Z = true) (hEL : EW Z a0 EL) (t : Addr) (kb : ClassId) (xa xb xc xd : Int32) (h0 : Heap) (O0 : Old Z Z.heap.size h0) (Kt : Arv Z h0 t kb .byte (8 : Int32) [(.int (82 : Int32)), (.int (95 : Int32)), (.int (95 : Int32)), (.int (xa.toInt8.toInt32)), (.int (46 : Int32)), (.int (115 : Int32)), (.int (113 : Int32)), (.int (108 : Int32))] (.int (0 : Int32))) :
    own_WC l Z EL (⟨"java/lang/StringLatin1", "newString", "([BII)Ljava/lang/String;"⟩ : MethodName) jdk_43_method_47_code 3 (some (.object "java/lang/String")) ({ frames := 3, cells := 6, slots := 40, locals := 80 } : Room) #[(.ref t), (.int (3 : Int32)), (.int (1 : Int32))] h0 [] (fun v h => (∃ (x t : Addr) (kb : ClassId), v = some (.ref x) ∧ Keep h0 h [] ∧ h0.size ≤ x ∧ Exa Z h x "java/lang/String" ∧ Fld Z h x "java/lang/String" "value" "[B" (.ref t) ∧ Fld Z h x "java/lang/String" "coder" "B" (.int (0 : Int32)) ∧ Arv Z h t kb .byte (Int32.ofNat ([xa] : List Int32).length) ((([xa] : List Int32).map (fun c : Int32 => c.toInt8.toInt32)).map Value.int) (.int (0 : Int32)))) := by
  refine own_wc (plainFor_of_name (by first | (simp [plainName, overriddenIn]; done) | decide +kernel)) hEL ?_
  intro p e s m below meth c s₁ S0 X0 hx hby hml hret hnm hown hZ e0 hS0 CR0 hsf cc
  have N0 := Fr.nil Z.heap.size
  have hk0 : 0 ≤ h0.size := Nat.zero_le _
  have hstr : ∀ d ∈ Bundle.stringAtoms, d.before a0 Z = true := fun d hd => hw d (own_strA d hd)
  have c0 : Steps p.tables e below S0 (s₁.setTop (mkF m 0 #[.val (.ref t), .val (.int (3 : Int32)), .val (.int (1 : Int32))] [])) := cc.trans (XT.entry rfl)
  have c1 : Steps p.tables e below S0 (s₁.setTop (mkF m 7 #[.val (.ref t), .val (.int (3 : Int32)), .val (.int (1 : Int32))] [])) := c0.trans (by
    refine XS.iloadN X0.here hx rfl (hb hby d14_0) rfl ?_
    refine XS.ifYes X0.here hx rfl (pc0 := 1) (pc' := 7) rfl (hb hby d14_1) rfl ((if0 _ _).trans (feq (by decide : ¬ ((1 : Int32) = (0 : Int32)))).2) (by decide) (by decide) ?_
    exact Steps.refl _)
  obtain ⟨T2, h2, X2, e2, E2, A2, D2, -, st2⟩ := newO X0 hx hZ hown (hw _ (List.mem_of_getElem? (i := 83) rfl)) (hw _ (List.mem_of_getElem? (i := 3) rfl)) (hw _ (List.mem_of_getElem? (i := 4) rfl)) e0 (g := (mkF m 7 #[.val (.ref t), .val (.int (3 : Int32)), .val (.int (1 : Int32))] [])) rfl (hb hby d14_7) (by decide) (by decide)
  obtain ⟨b2, g2⟩ : ∃ z, z = h0.size := ⟨_, rfl⟩
  rw [← g2] at A2 D2 st2
  have lo2 : h0.size ≤ b2 := Nat.le_of_eq g2.symm
  have ge2 : Z.heap.size ≤ b2 := Nat.le_trans O0.2.1 lo2
  have R2 := CHr.ext (EL := EL) E2 CR0.1
  have sf2 := Safe.ext E2 CR0.1 (Safe.new lo2)
  have CR2 := CR0.trans R2
  have hk2 := Nat.le_trans hk0 R2.2.1
  have F2_coder : Fld Z h2 b2 "java/lang/String" "coder" "B" (.int (0 : Int32)) := D2 (Or.inr (hw _ (List.mem_of_getElem? (i := 28) rfl))) (ty := .byte) (by decide)
  have F2_value : Fld Z h2 b2 "java/lang/String" "value" "[B" .null := D2 (Or.inr (hw _ (List.mem_of_getElem? (i := 30) rfl))) (ty := (.array .byte)) (by decide)
  have c2 : Steps p.tables e below S0 (T2.setTop (mkF m 10 #[.val (.ref t), .val (.int (3 : Int32)), .val (.int (1 : Int32))] [(.ref b2)])) := c1.trans (st2 _ (Steps.refl _))
  have c3 : Steps p.tables e below S0 (T2.setTop (mkF m 16 #[.val (.ref t), .val (.int (3 : Int32)), .val (.int (1 : Int32))] [(.int (4 : Int32)), (.int (3 : Int32)), (.ref t), (.ref b2), (.ref b2)])) := c2.trans (by
    refine XS.dup X2.here hx rfl (hb hby d14_10) rfl rfl ?_
    refine XS.aloadN X2.here hx rfl (hb hby d14_11) rfl rfl ?_
    refine XS.iloadN X2.here hx rfl (hb hby d14_12) rfl ?_
    refine XS.iloadN X2.here hx rfl (hb hby d14_13) rfl ?_
    refine XS.iloadN X2.here hx rfl (hb hby d14_14) rfl ?_
    refine XS.iadd X2.here hx rfl (hb hby d14_15) rfl ?_
    exact Steps.refl _)
  obtain ⟨v4, T4, L4, X4, ⟨N4', u4, ku4, rfl, K4, lo4, Ku4⟩, c4'⟩ := own_stat X2 hx hml hZ hown (hw _ (List.mem_of_getElem? (i := 84) rfl)) (hw _ (List.mem_of_getElem? (i := 85) rfl)) (hw _ (List.mem_of_getElem? (i := 86) rfl)) (hw _ (List.mem_of_getElem? (i := 87) rfl)) (by decide) (kc := 1) (ks := 1) (h := h2) (W := 2) (argsL := [(.ref t), (.int (3 : Int32)), (.int (4 : Int32))]) (rest := [(.ref b2), (.ref b2)]) (own_pay (W := 2) (rmCOR1 l Z a0 hw t kb xa xb xc xd h2 (O0.ext E2) (Kt.ext E2)) hZ (hw _ (List.mem_of_getElem? (i := 87) rfl)) (hw _ (List.mem_of_getElem? (i := 86) rfl)) (by decide) (by decide)) c3 rfl rfl (lenOf pd_8 rfl) rfl (by show 2 * 0 + _ ≤ _; exact Nat.le_of_eq rfl) (hb hby d14_16) e2 (by decide) (by decide)
  have N4 := Fr.app N0 N4'
  have R4 := CHr.keep K4 sf0 CR2.1
  have CR4 := CR2.trans R4
  have hk4 := Nat.le_trans hk2 R4.2.1
  have c4 : Steps p.tables e below S0 (T4.setTop (mkF m 19 #[.val (.ref t), .val (.int (3 : Int32)), .val (.int (1 : Int32))] [(.ref u4), (.ref b2), (.ref b2)])) := c4'
  have c5 : Steps p.tables e below S0 (T4.setTop (mkF m 20 #[.val (.ref t), .val (.int (3 : Int32)), .val (.int (1 : Int32))] [(.int (0 : Int32)), (.ref u4), (.ref b2), (.ref b2)])) := c4.trans (by
    refine XS.iconst X4.here hx rfl (hb hby d14_19) ?_
    exact Steps.refl _)
  obtain ⟨v6, T6, L6, X6, ⟨N6', rfl, K6, E6, V6, Cd6⟩, c6'⟩ := own_spec X4 hx hml hZ hown rfl (hw _ (List.mem_of_getElem? (i := 102) rfl)) (hw _ (List.mem_of_getElem? (i := 103) rfl)) (hw _ (List.mem_of_getElem? (i := 104) rfl)) (by decide) (kc := 0) (ks := 0) (h := T4.heap) (W := 1) (b := b2) (argsL := [(.ref u4), (.int (0 : Int32))]) (rest := [(.ref b2)]) (own_pay (W := 1) (rmIB l Z a0 hw b2 u4 _ _ T4.heap ((O0.ext E2).keep K4 all0) (A2.keep K4) (F2_value.keep K4 nin0) (F2_coder.keep K4 nin0) ge2) hZ (hw _ (List.mem_of_getElem? (i := 104) rfl)) (hw _ (List.mem_of_getElem? (i := 4) rfl)) (by decide) (by decide)) c5 rfl rfl (lenOf pd_9 rfl) rfl (by show 2 * 0 + _ ≤ _; exact Nat.le_of_eq rfl) (hb hby d14_20) rfl (by decide) (by decide)
  have N6 := Fr.app N4 N6'
  have R6 := CHr.keep K6 (sfS (R4.safe A2.lt sf2) sf0) CR4.1
  have CR6 := CR4.trans R6
  have hk6 := Nat.le_trans hk4 R6.2.1
  have c6 : Steps p.tables e below S0 (T6.setTop (mkF m 23 #[.val (.ref t), .val (.int (3 : Int32)), .val (.int (1 : Int32))] [(.ref b2)])) := c6'
  refine ⟨T6, s.vm, _, (some (.ref b2)), _, _, _, X6, by decide, by decide, (fun q => by cases q), N6, hS0, hk6, hZ, CR6, ?_, fun fs hr => ?_⟩
  · skip
    exact ⟨b2, u4, ku4, rfl, ((((Keep.refl h0 []).ext E2).trans K4 all0).trans K6 (allS (Or.inr (Nat.le_trans (Keep.refl h0 []).1 lo2)) all0)), (Nat.le_trans (Keep.refl h0 []).1 lo2), E6, V6, Cd6, (Ku4.keep K6 (ninS (Ne.symm (Nat.ne_of_lt (Nat.lt_of_lt_of_le A2.lt lo4))) nin0))⟩
  · exact own_retR X6 hx c6 hret rfl rfl (hb hby d14_23) hr
set_option maxRecDepth 65536 in
set_option maxHeartbeats 40000000 in
theorem rmSub1 (l : Launch) (Z : State) (a0 : Array Value) (hw : ∀ d ∈ tables_1, d.before a0 Z = true) (hEL : EW Z a0 EL) (x t : Addr) (kb : ClassId) (xa xb xc xd : Int32) (z : Int32) (fm : Value) (h0 : Heap) (O0 : Old Z Z.heap.size h0) (E : Exa Z h0 x "java/lang/String") (V : Fld Z h0 x "java/lang/String" "value" "[B" (.ref t)) (Cd : Fld Z h0 x "java/lang/String" "coder" "B" (.int (0 : Int32))) (K : Arv Z h0 t kb .byte (Int32.ofNat ([(82 : Int32), (95 : Int32), (95 : Int32), xa, (46 : Int32), (115 : Int32), (113 : Int32), (108 : Int32)] : List Int32).length) ((([(82 : Int32), (95 : Int32), (95 : Int32), xa, (46 : Int32), (115 : Int32), (113 : Int32), (108 : Int32)] : List Int32).map (fun c : Int32 => c.toInt8.toInt32)).map Value.int) (.int (0 : Int32))) (hxa : own_B xa) (hxb : own_B xb) (hxc : own_B xc) (hxd : own_B xd) (SC : Sta Z Z.heap "java/lang/String" "COMPACT_STRINGS" "Z" (.int z)) (hz : ¬ z = 0) (SF : Sta Z Z.heap "jdk/internal/util/Preconditions" "SIOOBE_FORMATTER" "Ljava/util/function/BiFunction;" fm) (hfm : fm.isRef = true) :
    own_WC l Z EL (⟨"java/lang/String", "substring", "(II)Ljava/lang/String;"⟩ : MethodName) jdk_42_method_92_code 5 (some (.object "java/lang/String")) ({ frames := 5, cells := 6, slots := 40, locals := 110 } : Room) #[(.ref x), (.int (3 : Int32)), (.int (4 : Int32))] h0 [] (fun v h => (∃ (x t : Addr) (kb : ClassId), v = some (.ref x) ∧ Keep h0 h [] ∧ Exa Z h x "java/lang/String" ∧ Fld Z h x "java/lang/String" "value" "[B" (.ref t) ∧ Fld Z h x "java/lang/String" "coder" "B" (.int (0 : Int32)) ∧ Arv Z h t kb .byte (Int32.ofNat ([xa] : List Int32).length) ((([xa] : List Int32).map (fun c : Int32 => c.toInt8.toInt32)).map Value.int) (.int (0 : Int32)))) := by
  refine own_wc (plainFor_of_name (by first | (simp [plainName, overriddenIn]; done) | decide +kernel)) hEL ?_
  intro p e s m below meth c s₁ S0 X0 hx hby hml hret hnm hown hZ e0 hS0 CR0 hsf cc
  have N0 := Fr.nil Z.heap.size
  have hk0 : 0 ≤ h0.size := Nat.zero_le _
  have hstr : ∀ d ∈ Bundle.stringAtoms, d.before a0 Z = true := fun d hd => hw d (own_strA d hd)
  have c0 : Steps p.tables e below S0 (s₁.setTop (mkF m 0 #[.val (.ref x), .val (.int (3 : Int32)), .val (.int (4 : Int32)), .unset, .unset] [])) := cc.trans (XT.entry rfl)
  have c1 : Steps p.tables e below S0 (s₁.setTop (mkF m 1 #[.val (.ref x), .val (.int (3 : Int32)), .val (.int (4 : Int32)), .unset, .unset] [(.ref x)])) := c0.trans (by
    refine XS.aloadN X0.here hx rfl (hb hby d10_0) rfl rfl ?_
    exact Steps.refl _)
  obtain ⟨v2, T2, L2, X2, ⟨rfl, rfl, e2⟩, c2'⟩ := own_virt X0 hx hml hZ hown (hw _ (List.mem_of_getElem? (i := 55) rfl)) (hw _ (List.mem_of_getElem? (i := 40) rfl)) (hw _ (List.mem_of_getElem? (i := 42) rfl)) (hw _ (List.mem_of_getElem? (i := 41) rfl)) (hw _ (List.mem_of_getElem? (i := 42) rfl)) (by decide) (Q := fun v h' L => v = some (.int (Int32.ofNat ([(82 : Int32), (95 : Int32), (95 : Int32), xa, (46 : Int32), (115 : Int32), (113 : Int32), (108 : Int32)] : List Int32).length)) ∧ L = [] ∧ h' = h0) (kc := 0) (ks := 0) (h := h0) (W := 0) (b := x) (argsL := []) (rest := []) (StrChars.Road.lenW (s := (s.setVm s.vm)) (R := ({ frames := 5, cells := 6, slots := 40, locals := 110 } : Room)) (W := 0) hZ (own_wl hw) (kI := 4) (hw _ (List.mem_of_getElem? (i := 3) rfl)) (cs := [(82 : Int32), (95 : Int32), (95 : Int32), xa, (46 : Int32), (115 : Int32), (113 : Int32), (108 : Int32)]) E V Cd K (StrChars.Road.codOf (n := ([(82 : Int32), (95 : Int32), (95 : Int32), xa, (46 : Int32), (115 : Int32), (113 : Int32), (108 : Int32)] : List Int32).length) rfl (fun c hc => ((own_cons (own_Bl 82 (by decide)) (own_cons (own_Bl 95 (by decide)) (own_cons (own_Bl 95 (by decide)) (own_cons hxa (own_cons (own_Bl 46 (by decide)) (own_cons (own_Bl 115 (by decide)) (own_cons (own_Bl 113 (by decide)) (own_cons (own_Bl 108 (by decide)) own_nil)))))))) c hc).rng.2)) (fun c hc => ((own_cons (own_Bl 82 (by decide)) (own_cons (own_Bl 95 (by decide)) (own_cons (own_Bl 95 (by decide)) (own_cons hxa (own_cons (own_Bl 46 (by decide)) (own_cons (own_Bl 115 (by decide)) (own_cons (own_Bl 113 (by decide)) (own_cons (own_Bl 108 (by decide)) own_nil)))))))) c hc).rng2) (SC.ext O0.2) hz (Nat.le_of_ble_eq_true rfl) (by decide) (by decide)) E c1 rfl rfl (lenOf pd_1 rfl) rfl (by show 2 * 0 + _ ≤ _; exact Nat.le_of_eq rfl) (hb hby d10_1) e0 (by decide) (by decide)
  have N2 := Fr.app N0 (Fr.nil _)
  have c2 : Steps p.tables e below S0 (T2.setTop (mkF m 4 #[.val (.ref x), .val (.int (3 : Int32)), .val (.int (4 : Int32)), .unset, .unset] [(.int (8 : Int32))])) := c2'
  have c3 : Steps p.tables e below S0 (T2.setTop (mkF m 8 #[.val (.ref x), .val (.int (3 : Int32)), .val (.int (4 : Int32)), .val (.int (8 : Int32)), .unset] [(.int (8 : Int32)), (.int (4 : Int32)), (.int (3 : Int32))])) := c2.trans (by
    refine XS.istoreN X2.here hx rfl (hb hby d10_4) rfl (l' := #[.val (.ref x), .val (.int (3 : Int32)), .val (.int (4 : Int32)), .val (.int (8 : Int32)), .unset]) rfl ?_
    refine XS.iloadN X2.here hx rfl (hb hby d10_5) rfl ?_
    refine XS.iloadN X2.here hx rfl (hb hby d10_6) rfl ?_
    refine XS.iloadN X2.here hx rfl (hb hby d10_7) rfl ?_
    exact Steps.refl _)
  obtain ⟨v4, T4, L4, X4, ⟨N4', rfl, e4⟩, c4'⟩ := own_stat X2 hx hml hZ hown (hw _ (List.mem_of_getElem? (i := 56) rfl)) (hw _ (List.mem_of_getElem? (i := 57) rfl)) (hw _ (List.mem_of_getElem? (i := 4) rfl)) (hw _ (List.mem_of_getElem? (i := 58) rfl)) (by decide) (kc := 0) (ks := 0) (h := h0) (W := 0) (argsL := [(.int (3 : Int32)), (.int (4 : Int32)), (.int (8 : Int32))]) (rest := []) (own_pay (W := 0) (rmCBE1 l Z a0 hw z fm h0 O0 SC hz SF hfm) hZ (hw _ (List.mem_of_getElem? (i := 58) rfl)) (hw _ (List.mem_of_getElem? (i := 4) rfl)) (by decide) (by decide)) c3 rfl rfl (lenOf pd_2 rfl) rfl (by show 2 * 0 + _ ≤ _; exact Nat.le_of_eq rfl) (hb hby d10_8) e2 (by decide) (by decide)
  have N4 := Fr.app N2 N4'
  have c4 : Steps p.tables e below S0 (T4.setTop (mkF m 11 #[.val (.ref x), .val (.int (3 : Int32)), .val (.int (4 : Int32)), .val (.int (8 : Int32)), .unset] [])) := c4'
  have c5 : Steps p.tables e below S0 (T4.setTop (mkF m 28 #[.val (.ref x), .val (.int (3 : Int32)), .val (.int (4 : Int32)), .val (.int (8 : Int32)), .val (.int (1 : Int32))] [(.ref x)])) := c4.trans (by
    refine XS.iloadN X4.here hx rfl (hb hby d10_11) rfl ?_
    refine XS.ifYes X4.here hx rfl (pc0 := 12) (pc' := 22) rfl (hb hby d10_12) rfl ((if0 _ _).trans (feq (by decide : ¬ ((3 : Int32) = (0 : Int32)))).2) (by decide) (by decide) ?_
    refine XS.iloadN X4.here hx rfl (hb hby d10_22) rfl ?_
    refine XS.iloadN X4.here hx rfl (hb hby d10_23) rfl ?_
    refine XS.isub X4.here hx rfl (hb hby d10_24) rfl ?_
    refine XS.istore X4.here hx rfl (hb hby d10_25) rfl (l' := #[.val (.ref x), .val (.int (3 : Int32)), .val (.int (4 : Int32)), .val (.int (8 : Int32)), .val (.int (1 : Int32))]) rfl ?_
    refine XS.aloadN X4.here hx rfl (hb hby d10_27) rfl rfl ?_
    exact Steps.refl _)
  obtain ⟨v6, T6, L6, X6, ⟨N6', rfl, e6⟩, c6'⟩ := own_virt X4 hx hml hZ hown (hw _ (List.mem_of_getElem? (i := 64) rfl)) (hw _ (List.mem_of_getElem? (i := 65) rfl)) (hw _ (List.mem_of_getElem? (i := 67) rfl)) (hw _ (List.mem_of_getElem? (i := 66) rfl)) (hw _ (List.mem_of_getElem? (i := 67) rfl)) (by decide) (kc := 0) (ks := 0) (h := h0) (W := 0) (b := x) (argsL := []) (rest := []) (own_pay (W := 0) (rmIsL l Z a0 hw x z fm h0 O0 Cd SC hz SF hfm) hZ (hw _ (List.mem_of_getElem? (i := 68) rfl)) (hw _ (List.mem_of_getElem? (i := 4) rfl)) (by decide) (by decide)) E c5 rfl rfl (lenOf pd_3 rfl) rfl (by show 2 * 0 + _ ≤ _; exact Nat.le_of_eq rfl) (hb hby d10_28) e4 (by decide) (by decide)
  have N6 := Fr.app N4 N6'
  have c6 : Steps p.tables e below S0 (T6.setTop (mkF m 31 #[.val (.ref x), .val (.int (3 : Int32)), .val (.int (4 : Int32)), .val (.int (8 : Int32)), .val (.int (1 : Int32))] [(.int (1 : Int32))])) := c6'
  have c7 : Steps p.tables e below S0 (T6.setTop (mkF m 35 #[.val (.ref x), .val (.int (3 : Int32)), .val (.int (4 : Int32)), .val (.int (8 : Int32)), .val (.int (1 : Int32))] [(.ref x)])) := c6.trans (by
    refine XS.ifNo X6.here hx rfl (hb hby d10_31) rfl ((if0 _ _).trans (feq (by decide : ¬ ((1 : Int32) = (0 : Int32)))).1) ?_
    refine XS.aloadN X6.here hx rfl (hb hby d10_34) rfl rfl ?_
    exact Steps.refl _)
  obtain ⟨T8, X8, e8, st8⟩ := getF X6 hx hZ hown (host := "") (Or.inl (hw _ (List.mem_of_getElem? (i := 29) rfl))) Via.refl e6 V (g := (mkF m 35 #[.val (.ref x), .val (.int (3 : Int32)), .val (.int (4 : Int32)), .val (.int (8 : Int32)), .val (.int (1 : Int32))] [(.ref x)])) rfl rfl (hb hby d10_35)
  have c8 : Steps p.tables e below S0 (T8.setTop (mkF m 38 #[.val (.ref x), .val (.int (3 : Int32)), .val (.int (4 : Int32)), .val (.int (8 : Int32)), .val (.int (1 : Int32))] [(.ref t)])) := c7.trans (st8 _ (Steps.refl _))
  have c9 : Steps p.tables e below S0 (T8.setTop (mkF m 41 #[.val (.ref x), .val (.int (3 : Int32)), .val (.int (4 : Int32)), .val (.int (8 : Int32)), .val (.int (1 : Int32))] [(.int (1 : Int32)), (.int (3 : Int32)), (.ref t)])) := c8.trans (by
    refine XS.iloadN X8.here hx rfl (hb hby d10_38) rfl ?_
    refine XS.iload X8.here hx rfl (hb hby d10_39) rfl ?_
    exact Steps.refl _)
  obtain ⟨v10, T10, L10, X10, hS10, hZ10, hown10, R10, ⟨N10', x10, t10, kb10, rfl, K10, lo10, E10, V10, Cd10, Kb10⟩, c10'⟩ := own_wstat X8 hx hml hZ hown hS0 hk0 (hw _ (List.mem_of_getElem? (i := 69) rfl)) (hw _ (List.mem_of_getElem? (i := 70) rfl)) (hw _ (List.mem_of_getElem? (i := 71) rfl)) (hw _ (List.mem_of_getElem? (i := 72) rfl)) (by decide) (kc := 6) (ks := 40) (h := h0) (W := 0) (argsL := [(.ref t), (.int (3 : Int32)), (.int (1 : Int32))]) (rest := []) (own_wpay (W := 0) (rmNS1 l Z a0 hw hEL t kb xa xb xc xd h0 O0 K) hZ (hw _ (List.mem_of_getElem? (i := 72) rfl)) (hw _ (List.mem_of_getElem? (i := 71) rfl)) (by decide) (by decide) hEL CR0.1 all0) c9 rfl rfl (lenOf pd_4 rfl) rfl (by show 2 * 0 + _ ≤ _; exact Nat.le_of_eq rfl) (hb hby d10_41) e8 (by decide) (by decide)
  have N10 := Fr.app N6 N10'
  have CR10 := CR0.trans R10
  have c10 : Steps p.tables e below S0 (T10.setTop (mkF m 44 #[.val (.ref x), .val (.int (3 : Int32)), .val (.int (4 : Int32)), .val (.int (8 : Int32)), .val (.int (1 : Int32))] [(.ref x10)])) := c10'
  have c11 : Steps p.tables e below S0 (T10.setTop (mkF m 57 #[.val (.ref x), .val (.int (3 : Int32)), .val (.int (4 : Int32)), .val (.int (8 : Int32)), .val (.int (1 : Int32))] [(.ref x10)])) := c10.trans (by
    refine XS.goto X10.here hx rfl (pc0 := 44) (pc' := 57) rfl (hb hby d10_44) (by decide) (by decide) ?_
    exact Steps.refl _)
  refine ⟨T10, T10.vm, _, (some (.ref x10)), _, _, _, X10, by decide, by decide, (fun q => by cases q), N10, hS10, (Nat.le_refl _), hZ10, CR10, ?_, fun fs hr => ?_⟩
  · skip
    exact ⟨x10, t10, kb10, rfl, ((Keep.refl h0 []).trans K10 all0), E10, V10, Cd10, Kb10⟩
  · exact own_retR X10 hx c11 hret rfl rfl (hb hby d10_57) hr
set_option maxRecDepth 65536 in
set_option maxHeartbeats 40000000 in
theorem rmRN1 (l : Launch) (Z : State) (a0 : Array Value) (hw : ∀ d ∈ tables_1, d.before a0 Z = true) (hEL : EW Z a0 EL) (x t : Addr) (kb : ClassId) (xa xb xc xd : Int32) (z : Int32) (fm : Value) (h0 : Heap) (O0 : Old Z Z.heap.size h0) (E : Exa Z h0 x "java/lang/String") (V : Fld Z h0 x "java/lang/String" "value" "[B" (.ref t)) (Cd : Fld Z h0 x "java/lang/String" "coder" "B" (.int (0 : Int32))) (K : Arv Z h0 t kb .byte (Int32.ofNat ([(82 : Int32), (95 : Int32), (95 : Int32), xa, (46 : Int32), (115 : Int32), (113 : Int32), (108 : Int32)] : List Int32).length) ((([(82 : Int32), (95 : Int32), (95 : Int32), xa, (46 : Int32), (115 : Int32), (113 : Int32), (108 : Int32)] : List Int32).map (fun c : Int32 => c.toInt8.toInt32)).map Value.int) (.int (0 : Int32))) (hxa : own_B xa) (hxb : own_B xb) (hxc : own_B xc) (hxd : own_B xd) (SC : Sta Z Z.heap "java/lang/String" "COMPACT_STRINGS" "Z" (.int z)) (hz : ¬ z = 0) (SF : Sta Z Z.heap "jdk/internal/util/Preconditions" "SIOOBE_FORMATTER" "Ljava/util/function/BiFunction;" fm) (hfm : fm.isRef = true) :
    own_WC l Z EL (⟨"com/example/cambio/cambio/io/MigrationFolder", "repeatableName", "(Ljava/lang/String;)Ljava/lang/String;"⟩ : MethodName) prog_23_method_6_code 1 (some (.object "java/lang/String")) ({ frames := 6, cells := 10, slots := 100, locals := 150 } : Room) #[(.ref x)] h0 [] (fun v h => (∃ (x t : Addr) (kb : ClassId), v = some (.ref x) ∧ Keep h0 h [] ∧ Exa Z h x "java/lang/String" ∧ Fld Z h x "java/lang/String" "value" "[B" (.ref t) ∧ Fld Z h x "java/lang/String" "coder" "B" (.int (0 : Int32)) ∧ Arv Z h t kb .byte (Int32.ofNat ([xa] : List Int32).length) ((([xa] : List Int32).map (fun c : Int32 => c.toInt8.toInt32)).map Value.int) (.int (0 : Int32)))) := by
  refine own_wc (plainFor_of_name (by first | (simp [plainName, overriddenIn]; done) | decide +kernel)) hEL ?_
  intro p e s m below meth c s₁ S0 X0 hx hby hml hret hnm hown hZ e0 hS0 CR0 hsf cc
  have N0 := Fr.nil Z.heap.size
  have hk0 : 0 ≤ h0.size := Nat.zero_le _
  have hstr : ∀ d ∈ Bundle.stringAtoms, d.before a0 Z = true := fun d hd => hw d (own_strA d hd)
  have c0 : Steps p.tables e below S0 (s₁.setTop (mkF m 0 #[.val (.ref x)] [])) := cc.trans (XT.entry rfl)
  have c1 : Steps p.tables e below S0 (s₁.setTop (mkF m 1 #[.val (.ref x)] [(.ref x)])) := c0.trans (by
    refine XS.aloadN X0.here hx rfl (hb hby d7_0) rfl rfl ?_
    exact Steps.refl _)
  obtain ⟨la_2, T2, h2, kn2, lb_2, lk2, X2, e2, E2, hS2, hk2, hZ2, hown2, Ea2, Ca2, Va2, Kb2, la2, lb2, R2, Lt2, ne2, st2⟩ := ldcCH X0 hx hZ hown (hw _ (List.mem_of_getElem? (i := 38) rfl)) hstr e0 hS0 hk0 hEL (by decide) CR0.1 (vs := [(.int (82 : Int32)), (.int (95 : Int32)), (.int (95 : Int32))]) (z := (3 : Int32)) ⟨by decide, by decide⟩ (by decide) (by decide) (g := (mkF m 1 #[.val (.ref x)] [(.ref x)])) rfl (hb hby d7_1) (n := 12) (by decide) (by decide) (by decide) (by decide)
  have CR2 := CR0.trans R2
  have c2 : Steps p.tables e below S0 (T2.setTop (mkF m 3 #[.val (.ref x)] [(.ref la_2), (.ref x)])) := c1.trans (st2 _ (Steps.refl _))
  obtain ⟨v3, T3, L3, X3, ⟨rfl, rfl, e3⟩, c3'⟩ := own_virt X2 hx hml hZ2 hown2 (hw _ (List.mem_of_getElem? (i := 39) rfl)) (hw _ (List.mem_of_getElem? (i := 40) rfl)) (hw _ (List.mem_of_getElem? (i := 42) rfl)) (hw _ (List.mem_of_getElem? (i := 41) rfl)) (hw _ (List.mem_of_getElem? (i := 42) rfl)) (by decide) (Q := fun v h' L => v = some (.int (Int32.ofNat ([(82 : Int32), (95 : Int32), (95 : Int32)] : List Int32).length)) ∧ L = [] ∧ h' = h2) (kc := 0) (ks := 0) (h := h2) (W := 1) (b := la_2) (argsL := []) (rest := [(.ref x)]) (StrChars.Road.lenW (s := (s.setVm T2.vm)) (R := ({ frames := 6, cells := 10, slots := 100, locals := 150 } : Room)) (W := 1) hZ2 (own_wl hw) (kI := 4) (hw _ (List.mem_of_getElem? (i := 3) rfl)) (cs := [(82 : Int32), (95 : Int32), (95 : Int32)]) Ea2 Va2 Ca2 Kb2 (StrChars.Road.codOf (n := ([(82 : Int32), (95 : Int32), (95 : Int32)] : List Int32).length) rfl (fun c hc => ((own_cons (own_Bl 82 (by decide)) (own_cons (own_Bl 95 (by decide)) (own_cons (own_Bl 95 (by decide)) own_nil))) c hc).rng.2)) (fun c hc => ((own_cons (own_Bl 82 (by decide)) (own_cons (own_Bl 95 (by decide)) (own_cons (own_Bl 95 (by decide)) own_nil))) c hc).rng2) (SC.ext (O0.ext E2).2) hz (Nat.le_of_ble_eq_true rfl) (by decide) (by decide)) Ea2 c2 rfl rfl (lenOf pd_1 rfl) rfl (by show 2 * 0 + _ ≤ _; exact Nat.le_of_eq rfl) (hb hby d7_3) e2 (by decide) (by decide)
  have N3 := Fr.app N0 (Fr.nil _)
  have c3 : Steps p.tables e below S0 (T3.setTop (mkF m 6 #[.val (.ref x)] [(.int (3 : Int32)), (.ref x)])) := c3'
  have c4 : Steps p.tables e below S0 (T3.setTop (mkF m 7 #[.val (.ref x)] [(.ref x), (.int (3 : Int32)), (.ref x)])) := c3.trans (by
    refine XS.aloadN X3.here hx rfl (hb hby d7_6) rfl rfl ?_
    exact Steps.refl _)
  obtain ⟨v5, T5, L5, X5, ⟨rfl, rfl, e5⟩, c5'⟩ := own_virt X3 hx hml hZ2 hown2 (hw _ (List.mem_of_getElem? (i := 39) rfl)) (hw _ (List.mem_of_getElem? (i := 40) rfl)) (hw _ (List.mem_of_getElem? (i := 42) rfl)) (hw _ (List.mem_of_getElem? (i := 41) rfl)) (hw _ (List.mem_of_getElem? (i := 42) rfl)) (by decide) (Q := fun v h' L => v = some (.int (Int32.ofNat ([(82 : Int32), (95 : Int32), (95 : Int32), xa, (46 : Int32), (115 : Int32), (113 : Int32), (108 : Int32)] : List Int32).length)) ∧ L = [] ∧ h' = h2) (kc := 0) (ks := 0) (h := h2) (W := 2) (b := x) (argsL := []) (rest := [(.int (3 : Int32)), (.ref x)]) (StrChars.Road.lenW (s := (s.setVm T2.vm)) (R := ({ frames := 6, cells := 10, slots := 100, locals := 150 } : Room)) (W := 2) hZ2 (own_wl hw) (kI := 4) (hw _ (List.mem_of_getElem? (i := 3) rfl)) (cs := [(82 : Int32), (95 : Int32), (95 : Int32), xa, (46 : Int32), (115 : Int32), (113 : Int32), (108 : Int32)]) (E.ext E2) (V.ext E2) (Cd.ext E2) (K.ext E2) (StrChars.Road.codOf (n := ([(82 : Int32), (95 : Int32), (95 : Int32), xa, (46 : Int32), (115 : Int32), (113 : Int32), (108 : Int32)] : List Int32).length) rfl (fun c hc => ((own_cons (own_Bl 82 (by decide)) (own_cons (own_Bl 95 (by decide)) (own_cons (own_Bl 95 (by decide)) (own_cons hxa (own_cons (own_Bl 46 (by decide)) (own_cons (own_Bl 115 (by decide)) (own_cons (own_Bl 113 (by decide)) (own_cons (own_Bl 108 (by decide)) own_nil)))))))) c hc).rng.2)) (fun c hc => ((own_cons (own_Bl 82 (by decide)) (own_cons (own_Bl 95 (by decide)) (own_cons (own_Bl 95 (by decide)) (own_cons hxa (own_cons (own_Bl 46 (by decide)) (own_cons (own_Bl 115 (by decide)) (own_cons (own_Bl 113 (by decide)) (own_cons (own_Bl 108 (by decide)) own_nil)))))))) c hc).rng2) (SC.ext (O0.ext E2).2) hz (Nat.le_of_ble_eq_true rfl) (by decide) (by decide)) (E.ext E2) c4 rfl rfl (lenOf pd_1 rfl) rfl (by show 2 * 0 + _ ≤ _; exact Nat.le_of_eq rfl) (hb hby d7_7) e3 (by decide) (by decide)
  have N5 := Fr.app N3 (Fr.nil _)
  have c5 : Steps p.tables e below S0 (T5.setTop (mkF m 10 #[.val (.ref x)] [(.int (8 : Int32)), (.int (3 : Int32)), (.ref x)])) := c5'
  obtain ⟨la_6, T6, h6, kn6, lb_6, lk6, X6, e6, E6, hS6, hk6, hZ6, hown6, Ea6, Ca6, Va6, Kb6, la6, lb6, R6, Lt6, ne6, st6⟩ := ldcCH X5 hx hZ2 hown2 (hw _ (List.mem_of_getElem? (i := 49) rfl)) hstr e5 hS2 hk2 hEL (by decide) CR2.1 (vs := [(.int (46 : Int32)), (.int (115 : Int32)), (.int (113 : Int32)), (.int (108 : Int32))]) (z := (4 : Int32)) ⟨by decide, by decide⟩ (by decide) (by decide) (g := (mkF m 10 #[.val (.ref x)] [(.int (8 : Int32)), (.int (3 : Int32)), (.ref x)])) rfl (hb hby d7_10) (n := 16) (by decide) (by decide) (by decide) (by decide)
  have CR6 := CR2.trans R6
  have c6 : Steps p.tables e below S0 (T6.setTop (mkF m 12 #[.val (.ref x)] [(.ref la_6), (.int (8 : Int32)), (.int (3 : Int32)), (.ref x)])) := c5.trans (st6 _ (Steps.refl _))
  obtain ⟨v7, T7, L7, X7, ⟨rfl, rfl, e7⟩, c7'⟩ := own_virt X6 hx hml hZ6 hown6 (hw _ (List.mem_of_getElem? (i := 39) rfl)) (hw _ (List.mem_of_getElem? (i := 40) rfl)) (hw _ (List.mem_of_getElem? (i := 42) rfl)) (hw _ (List.mem_of_getElem? (i := 41) rfl)) (hw _ (List.mem_of_getElem? (i := 42) rfl)) (by decide) (Q := fun v h' L => v = some (.int (Int32.ofNat ([(46 : Int32), (115 : Int32), (113 : Int32), (108 : Int32)] : List Int32).length)) ∧ L = [] ∧ h' = h6) (kc := 0) (ks := 0) (h := h6) (W := 3) (b := la_6) (argsL := []) (rest := [(.int (8 : Int32)), (.int (3 : Int32)), (.ref x)]) (StrChars.Road.lenW (s := (s.setVm T6.vm)) (R := ({ frames := 6, cells := 10, slots := 100, locals := 150 } : Room)) (W := 3) hZ6 (own_wl hw) (kI := 4) (hw _ (List.mem_of_getElem? (i := 3) rfl)) (cs := [(46 : Int32), (115 : Int32), (113 : Int32), (108 : Int32)]) Ea6 Va6 Ca6 Kb6 (StrChars.Road.codOf (n := ([(46 : Int32), (115 : Int32), (113 : Int32), (108 : Int32)] : List Int32).length) rfl (fun c hc => ((own_cons (own_Bl 46 (by decide)) (own_cons (own_Bl 115 (by decide)) (own_cons (own_Bl 113 (by decide)) (own_cons (own_Bl 108 (by decide)) own_nil)))) c hc).rng.2)) (fun c hc => ((own_cons (own_Bl 46 (by decide)) (own_cons (own_Bl 115 (by decide)) (own_cons (own_Bl 113 (by decide)) (own_cons (own_Bl 108 (by decide)) own_nil)))) c hc).rng2) (SC.ext ((O0.ext E2).ext E6).2) hz (Nat.le_of_ble_eq_true rfl) (by decide) (by decide)) Ea6 c6 rfl rfl (lenOf pd_1 rfl) rfl (by show 2 * 0 + _ ≤ _; exact Nat.le_of_eq rfl) (hb hby d7_12) e6 (by decide) (by decide)
  have N7 := Fr.app N5 (Fr.nil _)
  have c7 : Steps p.tables e below S0 (T7.setTop (mkF m 15 #[.val (.ref x)] [(.int (4 : Int32)), (.int (8 : Int32)), (.int (3 : Int32)), (.ref x)])) := c7'
  have c8 : Steps p.tables e below S0 (T7.setTop (mkF m 16 #[.val (.ref x)] [(.int (4 : Int32)), (.int (3 : Int32)), (.ref x)])) := c7.trans (by
    refine XS.isub X7.here hx rfl (hb hby d7_15) rfl ?_
    exact Steps.refl _)
  obtain ⟨v9, T9, L9, X9, hS9, hZ9, hown9, R9, ⟨N9', x9, t9, kb9, rfl, K9, E9, V9, Cd9, Kb9⟩, c9'⟩ := own_wvirt X7 hx hml hZ6 hown6 hS6 hk6 (hw _ (List.mem_of_getElem? (i := 50) rfl)) (hw _ (List.mem_of_getElem? (i := 51) rfl)) (hw _ (List.mem_of_getElem? (i := 53) rfl)) (hw _ (List.mem_of_getElem? (i := 52) rfl)) (hw _ (List.mem_of_getElem? (i := 53) rfl)) (by decide) (kc := 6) (ks := 40) (h := h6) (W := 0) (b := x) (argsL := [(.int (3 : Int32)), (.int (4 : Int32))]) (rest := []) (own_wpay (W := 0) (rmSub1 l Z a0 hw hEL x t kb xa xb xc xd z fm h6 ((O0.ext E2).ext E6) ((E.ext E2).ext E6) ((V.ext E2).ext E6) ((Cd.ext E2).ext E6) ((K.ext E2).ext E6) hxa hxb hxc hxd SC hz SF hfm) hZ6 (hw _ (List.mem_of_getElem? (i := 54) rfl)) (hw _ (List.mem_of_getElem? (i := 4) rfl)) (by decide) (by decide) hEL CR6.1 all0) ((E.ext E2).ext E6) c8 rfl rfl (lenOf pd_5 rfl) rfl (by show 2 * 0 + _ ≤ _; exact Nat.le_of_eq rfl) (hb hby d7_16) e7 (by decide) (by decide)
  have N9 := Fr.app N7 N9'
  have CR9 := CR6.trans R9
  have c9 : Steps p.tables e below S0 (T9.setTop (mkF m 19 #[.val (.ref x)] [(.ref x9)])) := c9'
  refine ⟨T9, T9.vm, _, (some (.ref x9)), _, _, _, X9, by decide, by decide, (fun q => by cases q), N9, hS9, (Nat.le_refl _), hZ9, CR9, ?_, fun fs hr => ?_⟩
  · skip
    exact ⟨x9, t9, kb9, rfl, ((((Keep.refl h0 []).ext E2).ext E6).trans K9 all0), E9, V9, Cd9, Kb9⟩
  · exact own_retR X9 hx c9 hret rfl rfl (hb hby d7_19) hr
set_option maxRecDepth 65536 in
set_option maxHeartbeats 40000000 in
theorem rmCFT_3_5_9n (l : Launch) (Z : State) (a0 : Array Value) (hw : ∀ d ∈ tables_1, d.before a0 Z = true)  (h0 : Heap) (O0 : Old Z Z.heap.size h0)  :
    own_NC l Z (⟨"jdk/internal/util/Preconditions", "checkFromToIndex", "(IIILjava/util/function/BiFunction;)I"⟩ : MethodName) jdk_41_method_12_code 4 (some .int) ({ frames := 0, cells := 0, slots := 0, locals := 0 } : Room) #[(.int (3 : Int32)), (.int (5 : Int32)), (.int (9 : Int32)), .null] h0 (fun v h => v = some (.int (3 : Int32)) ∧ h = h0) := by
  refine own_nc (plainFor_of_name (by first | (simp [plainName, overriddenIn]; done) | decide +kernel)) ?_
  intro p e s m below meth c s₁ S0 X0 hx hby hml hret hnm hown hZ e0 cc
  have N0 := Fr.nil Z.heap.size
  have c0 : Steps p.tables e below S0 (s₁.setTop (mkF m 0 #[.val (.int (3 : Int32)), .val (.int (5 : Int32)), .val (.int (9 : Int32)), .val .null] [])) := cc.trans (XT.entry rfl)
  have c1 : Steps p.tables e below S0 (s₁.setTop (mkF m 23 #[.val (.int (3 : Int32)), .val (.int (5 : Int32)), .val (.int (9 : Int32)), .val .null] [(.int (3 : Int32))])) := c0.trans (by
    refine XS.iloadN X0.here hx rfl (hb hby d12_0) rfl ?_
    refine XS.ifNo X0.here hx rfl (hb hby d12_1) rfl ((if0 _ _).trans (flt (by decide : ¬ ((3 : Int32) < (0 : Int32)))).1) ?_
    refine XS.iloadN X0.here hx rfl (hb hby d12_4) rfl ?_
    refine XS.iloadN X0.here hx rfl (hb hby d12_5) rfl ?_
    refine XS.icmpNo X0.here hx rfl (hb hby d12_6) rfl (flt (by decide : ¬ ((5 : Int32) < (3 : Int32)))).2.2.1 ?_
    refine XS.iloadN X0.here hx rfl (hb hby d12_9) rfl ?_
    refine XS.iloadN X0.here hx rfl (hb hby d12_10) rfl ?_
    refine XS.icmpYes X0.here hx rfl (pc0 := 11) (pc' := 22) rfl (hb hby d12_11) rfl (flt (by decide : ¬ ((9 : Int32) < (5 : Int32)))).2.2.2 (by decide) (by decide) ?_
    refine XS.iloadN X0.here hx rfl (hb hby d12_22) rfl ?_
    exact Steps.refl _)
  refine ⟨s₁, (some (.int (3 : Int32))), _, _, _, X0, by decide, by decide, (fun q => by cases q), N0, ?_, fun fs hr => ?_⟩
  · rw [e0]
    exact ⟨rfl, rfl⟩
  · exact c1.trans (retI X0 hx hret (hb hby d12_23) hr)
set_option maxRecDepth 65536 in
set_option maxHeartbeats 40000000 in
theorem rmCFT_3_5_9r (l : Launch) (Z : State) (a0 : Array Value) (hw : ∀ d ∈ tables_1, d.before a0 Z = true) (fa : Addr) (h0 : Heap) (O0 : Old Z Z.heap.size h0)  :
    own_NC l Z (⟨"jdk/internal/util/Preconditions", "checkFromToIndex", "(IIILjava/util/function/BiFunction;)I"⟩ : MethodName) jdk_41_method_12_code 4 (some .int) ({ frames := 0, cells := 0, slots := 0, locals := 0 } : Room) #[(.int (3 : Int32)), (.int (5 : Int32)), (.int (9 : Int32)), (.ref fa)] h0 (fun v h => v = some (.int (3 : Int32)) ∧ h = h0) := by
  refine own_nc (plainFor_of_name (by first | (simp [plainName, overriddenIn]; done) | decide +kernel)) ?_
  intro p e s m below meth c s₁ S0 X0 hx hby hml hret hnm hown hZ e0 cc
  have N0 := Fr.nil Z.heap.size
  have c0 : Steps p.tables e below S0 (s₁.setTop (mkF m 0 #[.val (.int (3 : Int32)), .val (.int (5 : Int32)), .val (.int (9 : Int32)), .val (.ref fa)] [])) := cc.trans (XT.entry rfl)
  have c1 : Steps p.tables e below S0 (s₁.setTop (mkF m 23 #[.val (.int (3 : Int32)), .val (.int (5 : Int32)), .val (.int (9 : Int32)), .val (.ref fa)] [(.int (3 : Int32))])) := c0.trans (by
    refine XS.iloadN X0.here hx rfl (hb hby d12_0) rfl ?_
    refine XS.ifNo X0.here hx rfl (hb hby d12_1) rfl ((if0 _ _).trans (flt (by decide : ¬ ((3 : Int32) < (0 : Int32)))).1) ?_
    refine XS.iloadN X0.here hx rfl (hb hby d12_4) rfl ?_
    refine XS.iloadN X0.here hx rfl (hb hby d12_5) rfl ?_
    refine XS.icmpNo X0.here hx rfl (hb hby d12_6) rfl (flt (by decide : ¬ ((5 : Int32) < (3 : Int32)))).2.2.1 ?_
    refine XS.iloadN X0.here hx rfl (hb hby d12_9) rfl ?_
    refine XS.iloadN X0.here hx rfl (hb hby d12_10) rfl ?_
    refine XS.icmpYes X0.here hx rfl (pc0 := 11) (pc' := 22) rfl (hb hby d12_11) rfl (flt (by decide : ¬ ((9 : Int32) < (5 : Int32)))).2.2.2 (by decide) (by decide) ?_
    refine XS.iloadN X0.here hx rfl (hb hby d12_22) rfl ?_
    exact Steps.refl _)
  refine ⟨s₁, (some (.int (3 : Int32))), _, _, _, X0, by decide, by decide, (fun q => by cases q), N0, ?_, fun fs hr => ?_⟩
  · rw [e0]
    exact ⟨rfl, rfl⟩
  · exact c1.trans (retI X0 hx hret (hb hby d12_23) hr)
theorem rmCFT_3_5_9 (l : Launch) (Z : State) (a0 : Array Value) (hw : ∀ d ∈ tables_1, d.before a0 Z = true) (fm : Value) (h0 : Heap) (O0 : Old Z Z.heap.size h0) (hfm : fm.isRef = true) : own_NC l Z (⟨"jdk/internal/util/Preconditions", "checkFromToIndex", "(IIILjava/util/function/BiFunction;)I"⟩ : MethodName) jdk_41_method_12_code 4 (some .int) ({ frames := 0, cells := 0, slots := 0, locals := 0 } : Room) #[(.int (3 : Int32)), (.int (5 : Int32)), (.int (9 : Int32)), fm] h0 (fun v h => v = some (.int (3 : Int32)) ∧ h = h0) := by
  rcases ref_cases hfm with rfl | ⟨fa, rfl⟩
  · exact rmCFT_3_5_9n l Z a0 hw h0 O0
  · exact rmCFT_3_5_9r l Z a0 hw fa h0 O0
set_option maxRecDepth 65536 in
set_option maxHeartbeats 40000000 in
theorem rmCBE2 (l : Launch) (Z : State) (a0 : Array Value) (hw : ∀ d ∈ tables_1, d.before a0 Z = true) (z : Int32) (fm : Value) (h0 : Heap) (O0 : Old Z Z.heap.size h0) (SC : Sta Z Z.heap "java/lang/String" "COMPACT_STRINGS" "Z" (.int z)) (hz : ¬ z = 0) (SF : Sta Z Z.heap "jdk/internal/util/Preconditions" "SIOOBE_FORMATTER" "Ljava/util/function/BiFunction;" fm) (hfm : fm.isRef = true) :
    own_NC l Z (⟨"java/lang/String", "checkBoundsBeginEnd", "(III)V"⟩ : MethodName) jdk_42_method_158_code 3 none ({ frames := 1, cells := 0, slots := 0, locals := 20 } : Room) #[(.int (3 : Int32)), (.int (5 : Int32)), (.int (9 : Int32))] h0 (fun v h => v = none ∧ h = h0) := by
  refine own_nc (plainFor_of_name (by first | (simp [plainName, overriddenIn]; done) | decide +kernel)) ?_
  intro p e s m below meth c s₁ S0 X0 hx hby hml hret hnm hown hZ e0 cc
  have N0 := Fr.nil Z.heap.size
  have c0 : Steps p.tables e below S0 (s₁.setTop (mkF m 0 #[.val (.int (3 : Int32)), .val (.int (5 : Int32)), .val (.int (9 : Int32))] [])) := cc.trans (XT.entry rfl)
  have c1 : Steps p.tables e below S0 (s₁.setTop (mkF m 3 #[.val (.int (3 : Int32)), .val (.int (5 : Int32)), .val (.int (9 : Int32))] [(.int (9 : Int32)), (.int (5 : Int32)), (.int (3 : Int32))])) := c0.trans (by
    refine XS.iloadN X0.here hx rfl (hb hby d11_0) rfl ?_
    refine XS.iloadN X0.here hx rfl (hb hby d11_1) rfl ?_
    refine XS.iloadN X0.here hx rfl (hb hby d11_2) rfl ?_
    exact Steps.refl _)
  obtain ⟨T2, X2, e2, st2⟩ := getS2 X0 hx hZ hown (host := "") (Or.inl (hw _ (List.mem_of_getElem? (i := 59) rfl))) Via.refl e0 (SF.ext O0.2) (g := (mkF m 3 #[.val (.int (3 : Int32)), .val (.int (5 : Int32)), .val (.int (9 : Int32))] [(.int (9 : Int32)), (.int (5 : Int32)), (.int (3 : Int32))])) rfl (hb hby d11_3)
  have c2 : Steps p.tables e below S0 (T2.setTop (mkF m 6 #[.val (.int (3 : Int32)), .val (.int (5 : Int32)), .val (.int (9 : Int32))] [fm, (.int (9 : Int32)), (.int (5 : Int32)), (.int (3 : Int32))])) := c1.trans (st2 _ (Steps.refl _))
  obtain ⟨v3, T3, L3, X3, ⟨N3', rfl, e3⟩, c3'⟩ := own_stat X2 hx hml hZ hown (hw _ (List.mem_of_getElem? (i := 61) rfl)) (hw _ (List.mem_of_getElem? (i := 62) rfl)) (hw _ (List.mem_of_getElem? (i := 60) rfl)) (hw _ (List.mem_of_getElem? (i := 63) rfl)) (by decide) (kc := 0) (ks := 0) (h := h0) (W := 0) (argsL := [(.int (3 : Int32)), (.int (5 : Int32)), (.int (9 : Int32)), fm]) (rest := []) (own_pay (W := 0) (rmCFT_3_5_9 l Z a0 hw fm h0 O0 hfm) hZ (hw _ (List.mem_of_getElem? (i := 63) rfl)) (hw _ (List.mem_of_getElem? (i := 60) rfl)) (by decide) (by decide)) c2 rfl rfl (lenOf pd_0 rfl) rfl (by show 2 * 0 + _ ≤ _; exact Nat.le_of_eq rfl) (hb hby d11_6) e2 (by decide) (by decide)
  have N3 := Fr.app N0 N3'
  have c3 : Steps p.tables e below S0 (T3.setTop (mkF m 9 #[.val (.int (3 : Int32)), .val (.int (5 : Int32)), .val (.int (9 : Int32))] [(.int (3 : Int32))])) := c3'
  have c4 : Steps p.tables e below S0 (T3.setTop (mkF m 10 #[.val (.int (3 : Int32)), .val (.int (5 : Int32)), .val (.int (9 : Int32))] [])) := c3.trans (by
    refine XS.pop X3.here hx rfl (hb hby d11_9) rfl rfl ?_
    exact Steps.refl _)
  refine ⟨T3, none, _, _, _, X3, by decide, by decide, (fun _ => rfl), N3, ?_, fun fs hr => ?_⟩
  · rw [e3]
    exact ⟨rfl, rfl⟩
  · exact c4.trans (X3.returnOut hx hret (hb hby d11_10) hr)
set_option maxRecDepth 65536 in
set_option maxHeartbeats 40000000 in
theorem rmCL2 (l : Launch) (Z : State) (a0 : Array Value) (hw : ∀ d ∈ tables_1, d.before a0 Z = true)  (h0 : Heap) (O0 : Old Z Z.heap.size h0)  :
    own_NC l Z (⟨"java/util/Arrays", "checkLength", "(II)V"⟩ : MethodName) jdk_65_method_131_code 2 none ({ frames := 0, cells := 0, slots := 0, locals := 0 } : Room) #[(.int (3 : Int32)), (.int (5 : Int32))] h0 (fun v h => v = none ∧ h = h0) := by
  refine own_nc (plainFor_of_name (by first | (simp [plainName, overriddenIn]; done) | decide +kernel)) ?_
  intro p e s m below meth c s₁ S0 X0 hx hby hml hret hnm hown hZ e0 cc
  have N0 := Fr.nil Z.heap.size
  have c0 : Steps p.tables e below S0 (s₁.setTop (mkF m 0 #[.val (.int (3 : Int32)), .val (.int (5 : Int32))] [])) := cc.trans (XT.entry rfl)
  have c1 : Steps p.tables e below S0 (s₁.setTop (mkF m 37 #[.val (.int (3 : Int32)), .val (.int (5 : Int32))] [])) := c0.trans (by
    refine XS.iloadN X0.here hx rfl (hb hby d19_0) rfl ?_
    refine XS.iloadN X0.here hx rfl (hb hby d19_1) rfl ?_
    refine XS.icmpYes X0.here hx rfl (pc0 := 2) (pc' := 37) rfl (hb hby d19_2) rfl (flt (by decide : ¬ ((5 : Int32) < (3 : Int32)))).2.1 (by decide) (by decide) ?_
    exact Steps.refl _)
  refine ⟨s₁, none, _, _, _, X0, by decide, by decide, (fun _ => rfl), N0, ?_, fun fs hr => ?_⟩
  · rw [e0]
    exact ⟨rfl, rfl⟩
  · exact c1.trans (X0.returnOut hx hret (hb hby d19_37) hr)
set_option maxRecDepth 65536 in
set_option maxHeartbeats 40000000 in
theorem rmMin_6_2 (l : Launch) (Z : State) (a0 : Array Value) (hw : ∀ d ∈ tables_1, d.before a0 Z = true)  (h0 : Heap) (O0 : Old Z Z.heap.size h0)  :
    own_NC l Z (⟨"java/lang/Math", "min", "(II)I"⟩ : MethodName) jdk_29_method_69_code 2 (some .int) ({ frames := 0, cells := 0, slots := 0, locals := 0 } : Room) #[(.int (6 : Int32)), (.int (2 : Int32))] h0 (fun v h => v = some (.int (2 : Int32)) ∧ h = h0) := by
  refine own_nc (Jvm.Free.JP.mathPlain rfl (by decide +kernel)) ?_
  intro p e s m below meth c s₁ S0 X0 hx hby hml hret hnm hown hZ e0 cc
  have N0 := Fr.nil Z.heap.size
  have c0 : Steps p.tables e below S0 (s₁.setTop (mkF m 0 #[.val (.int (6 : Int32)), .val (.int (2 : Int32))] [])) := cc.trans (XT.entry rfl)
  have c1 : Steps p.tables e below S0 (s₁.setTop (mkF m 10 #[.val (.int (6 : Int32)), .val (.int (2 : Int32))] [(.int (2 : Int32))])) := c0.trans (by
    refine XS.iloadN X0.here hx rfl (hb hby d20_0) rfl ?_
    refine XS.iloadN X0.here hx rfl (hb hby d20_1) rfl ?_
    refine XS.icmpYes X0.here hx rfl (pc0 := 2) (pc' := 9) rfl (hb hby d20_2) rfl (tlt (by decide : (2 : Int32) < (6 : Int32))).2.2.1 (by decide) (by decide) ?_
    refine XS.iloadN X0.here hx rfl (hb hby d20_9) rfl ?_
    exact Steps.refl _)
  refine ⟨s₁, (some (.int (2 : Int32))), _, _, _, X0, by decide, by decide, (fun q => by cases q), N0, ?_, fun fs hr => ?_⟩
  · rw [e0]
    exact ⟨rfl, rfl⟩
  · exact c1.trans (retI X0 hx hret (hb hby d20_10) hr)
set_option maxRecDepth 65536 in
set_option maxHeartbeats 40000000 in
theorem rmCORB2 (l : Launch) (Z : State) (a0 : Array Value) (hw : ∀ d ∈ tables_1, d.before a0 Z = true) (t : Addr) (kb : ClassId) (xa xb xc xd : Int32) (h0 : Heap) (O0 : Old Z Z.heap.size h0) (Kt : Arv Z h0 t kb .byte (9 : Int32) [(.int (82 : Int32)), (.int (95 : Int32)), (.int (95 : Int32)), (.int (xa.toInt8.toInt32)), (.int (xb.toInt8.toInt32)), (.int (46 : Int32)), (.int (115 : Int32)), (.int (113 : Int32)), (.int (108 : Int32))] (.int (0 : Int32))) :
    own_NC l Z (⟨"java/util/Arrays", "copyOfRangeByte", "([BII)[B"⟩ : MethodName) jdk_65_method_133_code 5 (some (.array .byte)) ({ frames := 1, cells := 1, slots := 2, locals := 40 } : Room) #[(.ref t), (.int (3 : Int32)), (.int (5 : Int32))] h0 (fun v h => ∃ (u : Addr) (ku : ClassId), v = some (.ref u) ∧ Keep h0 h [] ∧ h0.size ≤ u ∧ Arv Z h u ku .byte (2 : Int32) [(.int (xa.toInt8.toInt32)), (.int (xb.toInt8.toInt32))] (.int (0 : Int32))) := by
  refine own_nc (plainFor_of_name (by first | (simp [plainName, overriddenIn]; done) | decide +kernel)) ?_
  intro p e s m below meth c s₁ S0 X0 hx hby hml hret hnm hown hZ e0 cc
  have N0 := Fr.nil Z.heap.size
  have c0 : Steps p.tables e below S0 (s₁.setTop (mkF m 0 #[.val (.ref t), .val (.int (3 : Int32)), .val (.int (5 : Int32)), .unset, .unset] [])) := cc.trans (XT.entry rfl)
  have c1 : Steps p.tables e below S0 (s₁.setTop (mkF m 2 #[.val (.ref t), .val (.int (3 : Int32)), .val (.int (5 : Int32)), .unset, .unset] [(.int (5 : Int32)), (.int (3 : Int32))])) := c0.trans (by
    refine XS.iloadN X0.here hx rfl (hb hby d18_0) rfl ?_
    refine XS.iloadN X0.here hx rfl (hb hby d18_1) rfl ?_
    exact Steps.refl _)
  obtain ⟨v2, T2, L2, X2, ⟨N2', rfl, e2⟩, c2'⟩ := own_stat X0 hx hml hZ hown (hw _ (List.mem_of_getElem? (i := 91) rfl)) (hw _ (List.mem_of_getElem? (i := 92) rfl)) (hw _ (List.mem_of_getElem? (i := 86) rfl)) (hw _ (List.mem_of_getElem? (i := 93) rfl)) (by decide) (kc := 0) (ks := 0) (h := h0) (W := 0) (argsL := [(.int (3 : Int32)), (.int (5 : Int32))]) (rest := []) (own_pay (W := 0) (rmCL2 l Z a0 hw h0 O0) hZ (hw _ (List.mem_of_getElem? (i := 93) rfl)) (hw _ (List.mem_of_getElem? (i := 86) rfl)) (by decide) (by decide)) c1 rfl rfl (lenOf pd_6 rfl) rfl (by show 2 * 0 + _ ≤ _; exact Nat.le_of_eq rfl) (hb hby d18_2) e0 (by decide) (by decide)
  have N2 := Fr.app N0 N2'
  have c2 : Steps p.tables e below S0 (T2.setTop (mkF m 5 #[.val (.ref t), .val (.int (3 : Int32)), .val (.int (5 : Int32)), .unset, .unset] [])) := c2'
  have c3 : Steps p.tables e below S0 (T2.setTop (mkF m 10 #[.val (.ref t), .val (.int (3 : Int32)), .val (.int (5 : Int32)), .val (.int (2 : Int32)), .unset] [(.int (2 : Int32))])) := c2.trans (by
    refine XS.iloadN X2.here hx rfl (hb hby d18_5) rfl ?_
    refine XS.iloadN X2.here hx rfl (hb hby d18_6) rfl ?_
    refine XS.isub X2.here hx rfl (hb hby d18_7) rfl ?_
    refine XS.istoreN X2.here hx rfl (hb hby d18_8) rfl (l' := #[.val (.ref t), .val (.int (3 : Int32)), .val (.int (5 : Int32)), .val (.int (2 : Int32)), .unset]) rfl ?_
    refine XS.iloadN X2.here hx rfl (hb hby d18_9) rfl ?_
    exact Steps.refl _)
  obtain ⟨T4, h4, k4, X4, e4, E4, A4, st4⟩ := newP X2 hx hZ (hw _ (List.mem_of_getElem? (i := 20) rfl)) e2 (g := (mkF m 10 #[.val (.ref t), .val (.int (3 : Int32)), .val (.int (5 : Int32)), .val (.int (2 : Int32)), .unset] [(.int (2 : Int32))])) rfl (hb hby d18_10) rfl (by decide) (cap := 2) (by decide) (by decide) (by decide) (by decide)
  obtain ⟨b4, g4⟩ : ∃ z, z = h0.size := ⟨_, rfl⟩
  rw [← g4] at A4 st4
  have lo4 : h0.size ≤ b4 := Nat.le_of_eq g4.symm
  have ge4 : Z.heap.size ≤ b4 := Nat.le_trans O0.2.1 lo4
  have V4 := Arv.new A4 (by decide)
  have V4a : Arv Z h4 b4 k4 .byte (2 : Int32) [(.int (0 : Int32)), (.int (0 : Int32))] (.int (0 : Int32)) := V4.pad (pad_rep [] (.int (0 : Int32)) 2)
  have c4 : Steps p.tables e below S0 (T4.setTop (mkF m 12 #[.val (.ref t), .val (.int (3 : Int32)), .val (.int (5 : Int32)), .val (.int (2 : Int32)), .unset] [(.ref b4)])) := c3.trans (st4 _ (Steps.refl _))
  have c5 : Steps p.tables e below S0 (T4.setTop (mkF m 20 #[.val (.ref t), .val (.int (3 : Int32)), .val (.int (5 : Int32)), .val (.int (2 : Int32)), .val (.ref b4)] [(.ref t), (.int (0 : Int32)), (.ref b4), (.int (3 : Int32)), (.ref t)])) := c4.trans (by
    refine XS.astore X4.here hx rfl (hb hby d18_12) rfl rfl (l' := #[.val (.ref t), .val (.int (3 : Int32)), .val (.int (5 : Int32)), .val (.int (2 : Int32)), .val (.ref b4)]) rfl ?_
    refine XS.aloadN X4.here hx rfl (hb hby d18_14) rfl rfl ?_
    refine XS.iloadN X4.here hx rfl (hb hby d18_15) rfl ?_
    refine XS.aload X4.here hx rfl (hb hby d18_16) rfl rfl ?_
    refine XS.iconst X4.here hx rfl (hb hby d18_18) ?_
    refine XS.aloadN X4.here hx rfl (hb hby d18_19) rfl rfl ?_
    exact Steps.refl _)
  obtain ⟨cl6, Ar6, q6, S6, M6, H6, G6⟩ := id (Kt.ext E4)
  have c6 : Steps p.tables e below S0 (T4.setTop (mkF m 21 #[.val (.ref t), .val (.int (3 : Int32)), .val (.int (5 : Int32)), .val (.int (2 : Int32)), .val (.ref b4)] [(.int (9 : Int32)), (.int (0 : Int32)), (.ref b4), (.int (3 : Int32)), (.ref t)])) := c5.trans (by
    refine X4.arraylength hx (by rw [show T4.heap = h4 from e4]; exact Ar6.1) (State.isArrayOf_alike (hZ).alike Ar6.2.1) (g := (mkF m 20 #[.val (.ref t), .val (.int (3 : Int32)), .val (.int (5 : Int32)), .val (.int (2 : Int32)), .val (.ref b4)] [(.ref t), (.int (0 : Int32)), (.ref b4), (.int (3 : Int32)), (.ref t)])) rfl rfl (hb hby d18_20) _ ?_
    rw [len_of S6 M6]
    exact Steps.refl _)
  have c7 : Steps p.tables e below S0 (T4.setTop (mkF m 24 #[.val (.ref t), .val (.int (3 : Int32)), .val (.int (5 : Int32)), .val (.int (2 : Int32)), .val (.ref b4)] [(.int (2 : Int32)), (.int (6 : Int32)), (.int (0 : Int32)), (.ref b4), (.int (3 : Int32)), (.ref t)])) := c6.trans (by
    refine XS.iloadN X4.here hx rfl (hb hby d18_21) rfl ?_
    refine XS.isub X4.here hx rfl (hb hby d18_22) rfl ?_
    refine XS.iloadN X4.here hx rfl (hb hby d18_23) rfl ?_
    exact Steps.refl _)
  obtain ⟨v8, T8, L8, X8, ⟨N8', rfl, e8⟩, c8'⟩ := own_stat X4 hx hml hZ hown (hw _ (List.mem_of_getElem? (i := 94) rfl)) (hw _ (List.mem_of_getElem? (i := 95) rfl)) (hw _ (List.mem_of_getElem? (i := 96) rfl)) (hw _ (List.mem_of_getElem? (i := 97) rfl)) (by decide) (kc := 0) (ks := 0) (h := h4) (W := 4) (argsL := [(.int (6 : Int32)), (.int (2 : Int32))]) (rest := [(.int (0 : Int32)), (.ref b4), (.int (3 : Int32)), (.ref t)]) (own_pay (W := 4) (rmMin_6_2 l Z a0 hw h4 (O0.ext E4)) hZ (hw _ (List.mem_of_getElem? (i := 97) rfl)) (hw _ (List.mem_of_getElem? (i := 96) rfl)) (by decide) (by decide)) c7 rfl rfl (lenOf pd_7 rfl) rfl (by show 2 * 0 + _ ≤ _; exact Nat.le_of_eq rfl) (hb hby d18_24) e4 (by decide) (by decide)
  have N8 := Fr.app N2 N8'
  have c8 : Steps p.tables e below S0 (T8.setTop (mkF m 27 #[.val (.ref t), .val (.int (3 : Int32)), .val (.int (5 : Int32)), .val (.int (2 : Int32)), .val (.ref b4)] [(.int (2 : Int32)), (.int (0 : Int32)), (.ref b4), (.int (3 : Int32)), (.ref t)])) := c8'
  obtain ⟨T9, h9, L9, X9, e9, N9, K9, V9, st9⟩ := cpA X8 hx hZ hown (hw _ (List.mem_of_getElem? (i := 98) rfl)) (hw _ (List.mem_of_getElem? (i := 101) rfl)) (hw _ (List.mem_of_getElem? (i := 99) rfl)) (hw _ (List.mem_of_getElem? (i := 100) rfl)) e8 (us := [(.int (xa.toInt8.toInt32)), (.int (xb.toInt8.toInt32))]) (Kt.ext E4) V4a (Or.inl ⟨rfl, rfl⟩) (by decide) (by decide) (by decide) (by decide) (by decide) rfl (by decide) N8 ge4 (g := (mkF m 27 #[.val (.ref t), .val (.int (3 : Int32)), .val (.int (5 : Int32)), .val (.int (2 : Int32)), .val (.ref b4)] [(.int (2 : Int32)), (.int (0 : Int32)), (.ref b4), (.int (3 : Int32)), (.ref t)])) rfl (by rw [hml]; rfl) rfl (hb hby d18_27) (by decide) (W := 0) (by show 2 * 0 + _ ≤ _; exact Nat.le_of_eq rfl) (by decide)
  have V9a : Arv Z h9 b4 k4 .byte (2 : Int32) [(.int (xa.toInt8.toInt32)), (.int (xb.toInt8.toInt32))] (.int (0 : Int32)) := V9
  have c9 : Steps p.tables e below S0 (T9.setTop (mkF m 30 #[.val (.ref t), .val (.int (3 : Int32)), .val (.int (5 : Int32)), .val (.int (2 : Int32)), .val (.ref b4)] [])) := c8.trans (st9 _ (Steps.refl _))
  have c10 : Steps p.tables e below S0 (T9.setTop (mkF m 32 #[.val (.ref t), .val (.int (3 : Int32)), .val (.int (5 : Int32)), .val (.int (2 : Int32)), .val (.ref b4)] [(.ref b4)])) := c9.trans (by
    refine XS.aload X9.here hx rfl (hb hby d18_30) rfl rfl ?_
    exact Steps.refl _)
  refine ⟨T9, (some (.ref b4)), _, _, _, X9, by decide, by decide, (fun q => by cases q), N9, ?_, fun fs hr => ?_⟩
  · rw [e9]
    exact ⟨b4, k4, rfl, (((Keep.refl h0 []).ext E4).trans K9 (allS (Or.inr (Nat.le_trans (Keep.refl h0 []).1 lo4)) all0)), (Nat.le_trans (Keep.refl h0 []).1 lo4), V9a⟩
  · exact own_retR X9 hx c10 hret rfl rfl (hb hby d18_32) hr
set_option maxRecDepth 65536 in
set_option maxHeartbeats 40000000 in
theorem rmCOR2 (l : Launch) (Z : State) (a0 : Array Value) (hw : ∀ d ∈ tables_1, d.before a0 Z = true) (t : Addr) (kb : ClassId) (xa xb xc xd : Int32) (h0 : Heap) (O0 : Old Z Z.heap.size h0) (Kt : Arv Z h0 t kb .byte (9 : Int32) [(.int (82 : Int32)), (.int (95 : Int32)), (.int (95 : Int32)), (.int (xa.toInt8.toInt32)), (.int (xb.toInt8.toInt32)), (.int (46 : Int32)), (.int (115 : Int32)), (.int (113 : Int32)), (.int (108 : Int32))] (.int (0 : Int32))) :
    own_NC l Z (⟨"java/util/Arrays", "copyOfRange", "([BII)[B"⟩ : MethodName) jdk_65_method_132_code 3 (some (.array .byte)) ({ frames := 2, cells := 1, slots := 2, locals := 60 } : Room) #[(.ref t), (.int (3 : Int32)), (.int (5 : Int32))] h0 (fun v h => ∃ (u : Addr) (ku : ClassId), v = some (.ref u) ∧ Keep h0 h [] ∧ h0.size ≤ u ∧ Arv Z h u ku .byte (2 : Int32) [(.int (xa.toInt8.toInt32)), (.int (xb.toInt8.toInt32))] (.int (0 : Int32))) := by
  refine own_nc (plainFor_of_name (by first | (simp [plainName, overriddenIn]; done) | decide +kernel)) ?_
  intro p e s m below meth c s₁ S0 X0 hx hby hml hret hnm hown hZ e0 cc
  have N0 := Fr.nil Z.heap.size
  have c0 : Steps p.tables e below S0 (s₁.setTop (mkF m 0 #[.val (.ref t), .val (.int (3 : Int32)), .val (.int (5 : Int32))] [])) := cc.trans (XT.entry rfl)
  have c1 : Steps p.tables e below S0 (s₁.setTop (mkF m 13 #[.val (.ref t), .val (.int (3 : Int32)), .val (.int (5 : Int32))] [(.int (5 : Int32)), (.int (3 : Int32)), (.ref t)])) := c0.trans (by
    refine XS.iloadN X0.here hx rfl (hb hby d17_0) rfl ?_
    refine XS.ifYes X0.here hx rfl (pc0 := 1) (pc' := 10) rfl (hb hby d17_1) rfl ((if0 _ _).trans (feq (by decide : ¬ ((3 : Int32) = (0 : Int32)))).2) (by decide) (by decide) ?_
    refine XS.aloadN X0.here hx rfl (hb hby d17_10) rfl rfl ?_
    refine XS.iloadN X0.here hx rfl (hb hby d17_11) rfl ?_
    refine XS.iloadN X0.here hx rfl (hb hby d17_12) rfl ?_
    exact Steps.refl _)
  obtain ⟨v2, T2, L2, X2, ⟨N2', u2, ku2, rfl, K2, lo2, Ku2⟩, c2'⟩ := own_stat X0 hx hml hZ hown (hw _ (List.mem_of_getElem? (i := 88) rfl)) (hw _ (List.mem_of_getElem? (i := 89) rfl)) (hw _ (List.mem_of_getElem? (i := 86) rfl)) (hw _ (List.mem_of_getElem? (i := 90) rfl)) (by decide) (kc := 1) (ks := 2) (h := h0) (W := 0) (argsL := [(.ref t), (.int (3 : Int32)), (.int (5 : Int32))]) (rest := []) (own_pay (W := 0) (rmCORB2 l Z a0 hw t kb xa xb xc xd h0 O0 Kt) hZ (hw _ (List.mem_of_getElem? (i := 90) rfl)) (hw _ (List.mem_of_getElem? (i := 86) rfl)) (by decide) (by decide)) c1 rfl rfl (lenOf pd_8 rfl) rfl (by show 2 * 0 + _ ≤ _; exact Nat.le_of_eq rfl) (hb hby d17_13) e0 (by decide) (by decide)
  have N2 := Fr.app N0 N2'
  have c2 : Steps p.tables e below S0 (T2.setTop (mkF m 16 #[.val (.ref t), .val (.int (3 : Int32)), .val (.int (5 : Int32))] [(.ref u2)])) := c2'
  refine ⟨T2, (some (.ref u2)), _, _, _, X2, by decide, by decide, (fun q => by cases q), N2, ?_, fun fs hr => ?_⟩
  · skip
    exact ⟨u2, ku2, rfl, ((Keep.refl h0 []).trans K2 all0), (Nat.le_trans (Keep.refl h0 []).1 lo2), Ku2⟩
  · exact own_retR X2 hx c2 hret rfl rfl (hb hby d17_16) hr
set_option maxRecDepth 65536 in
set_option maxHeartbeats 40000000 in
theorem rmNS2 (l : Launch) (Z : State) (a0 : Array Value) (hw : ∀ d ∈ tables_1, d.before a0 Z = true) (hEL : EW Z a0 EL) (t : Addr) (kb : ClassId) (xa xb xc xd : Int32) (h0 : Heap) (O0 : Old Z Z.heap.size h0) (Kt : Arv Z h0 t kb .byte (9 : Int32) [(.int (82 : Int32)), (.int (95 : Int32)), (.int (95 : Int32)), (.int (xa.toInt8.toInt32)), (.int (xb.toInt8.toInt32)), (.int (46 : Int32)), (.int (115 : Int32)), (.int (113 : Int32)), (.int (108 : Int32))] (.int (0 : Int32))) :
    own_WC l Z EL (⟨"java/lang/StringLatin1", "newString", "([BII)Ljava/lang/String;"⟩ : MethodName) jdk_43_method_47_code 3 (some (.object "java/lang/String")) ({ frames := 3, cells := 6, slots := 40, locals := 80 } : Room) #[(.ref t), (.int (3 : Int32)), (.int (2 : Int32))] h0 [] (fun v h => (∃ (x t : Addr) (kb : ClassId), v = some (.ref x) ∧ Keep h0 h [] ∧ h0.size ≤ x ∧ Exa Z h x "java/lang/String" ∧ Fld Z h x "java/lang/String" "value" "[B" (.ref t) ∧ Fld Z h x "java/lang/String" "coder" "B" (.int (0 : Int32)) ∧ Arv Z h t kb .byte (Int32.ofNat ([xa, xb] : List Int32).length) ((([xa, xb] : List Int32).map (fun c : Int32 => c.toInt8.toInt32)).map Value.int) (.int (0 : Int32)))) := by
  refine own_wc (plainFor_of_name (by first | (simp [plainName, overriddenIn]; done) | decide +kernel)) hEL ?_
  intro p e s m below meth c s₁ S0 X0 hx hby hml hret hnm hown hZ e0 hS0 CR0 hsf cc
  have N0 := Fr.nil Z.heap.size
  have hk0 : 0 ≤ h0.size := Nat.zero_le _
  have hstr : ∀ d ∈ Bundle.stringAtoms, d.before a0 Z = true := fun d hd => hw d (own_strA d hd)
  have c0 : Steps p.tables e below S0 (s₁.setTop (mkF m 0 #[.val (.ref t), .val (.int (3 : Int32)), .val (.int (2 : Int32))] [])) := cc.trans (XT.entry rfl)
  have c1 : Steps p.tables e below S0 (s₁.setTop (mkF m 7 #[.val (.ref t), .val (.int (3 : Int32)), .val (.int (2 : Int32))] [])) := c0.trans (by
    refine XS.iloadN X0.here hx rfl (hb hby d14_0) rfl ?_
    refine XS.ifYes X0.here hx rfl (pc0 := 1) (pc' := 7) rfl (hb hby d14_1) rfl ((if0 _ _).trans (feq (by decide : ¬ ((2 : Int32) = (0 : Int32)))).2) (by decide) (by decide) ?_
    exact Steps.refl _)
  obtain ⟨T2, h2, X2, e2, E2, A2, D2, -, st2⟩ := newO X0 hx hZ hown (hw _ (List.mem_of_getElem? (i := 83) rfl)) (hw _ (List.mem_of_getElem? (i := 3) rfl)) (hw _ (List.mem_of_getElem? (i := 4) rfl)) e0 (g := (mkF m 7 #[.val (.ref t), .val (.int (3 : Int32)), .val (.int (2 : Int32))] [])) rfl (hb hby d14_7) (by decide) (by decide)
  obtain ⟨b2, g2⟩ : ∃ z, z = h0.size := ⟨_, rfl⟩
  rw [← g2] at A2 D2 st2
  have lo2 : h0.size ≤ b2 := Nat.le_of_eq g2.symm
  have ge2 : Z.heap.size ≤ b2 := Nat.le_trans O0.2.1 lo2
  have R2 := CHr.ext (EL := EL) E2 CR0.1
  have sf2 := Safe.ext E2 CR0.1 (Safe.new lo2)
  have CR2 := CR0.trans R2
  have hk2 := Nat.le_trans hk0 R2.2.1
  have F2_coder : Fld Z h2 b2 "java/lang/String" "coder" "B" (.int (0 : Int32)) := D2 (Or.inr (hw _ (List.mem_of_getElem? (i := 28) rfl))) (ty := .byte) (by decide)
  have F2_value : Fld Z h2 b2 "java/lang/String" "value" "[B" .null := D2 (Or.inr (hw _ (List.mem_of_getElem? (i := 30) rfl))) (ty := (.array .byte)) (by decide)
  have c2 : Steps p.tables e below S0 (T2.setTop (mkF m 10 #[.val (.ref t), .val (.int (3 : Int32)), .val (.int (2 : Int32))] [(.ref b2)])) := c1.trans (st2 _ (Steps.refl _))
  have c3 : Steps p.tables e below S0 (T2.setTop (mkF m 16 #[.val (.ref t), .val (.int (3 : Int32)), .val (.int (2 : Int32))] [(.int (5 : Int32)), (.int (3 : Int32)), (.ref t), (.ref b2), (.ref b2)])) := c2.trans (by
    refine XS.dup X2.here hx rfl (hb hby d14_10) rfl rfl ?_
    refine XS.aloadN X2.here hx rfl (hb hby d14_11) rfl rfl ?_
    refine XS.iloadN X2.here hx rfl (hb hby d14_12) rfl ?_
    refine XS.iloadN X2.here hx rfl (hb hby d14_13) rfl ?_
    refine XS.iloadN X2.here hx rfl (hb hby d14_14) rfl ?_
    refine XS.iadd X2.here hx rfl (hb hby d14_15) rfl ?_
    exact Steps.refl _)
  obtain ⟨v4, T4, L4, X4, ⟨N4', u4, ku4, rfl, K4, lo4, Ku4⟩, c4'⟩ := own_stat X2 hx hml hZ hown (hw _ (List.mem_of_getElem? (i := 84) rfl)) (hw _ (List.mem_of_getElem? (i := 85) rfl)) (hw _ (List.mem_of_getElem? (i := 86) rfl)) (hw _ (List.mem_of_getElem? (i := 87) rfl)) (by decide) (kc := 1) (ks := 2) (h := h2) (W := 2) (argsL := [(.ref t), (.int (3 : Int32)), (.int (5 : Int32))]) (rest := [(.ref b2), (.ref b2)]) (own_pay (W := 2) (rmCOR2 l Z a0 hw t kb xa xb xc xd h2 (O0.ext E2) (Kt.ext E2)) hZ (hw _ (List.mem_of_getElem? (i := 87) rfl)) (hw _ (List.mem_of_getElem? (i := 86) rfl)) (by decide) (by decide)) c3 rfl rfl (lenOf pd_8 rfl) rfl (by show 2 * 0 + _ ≤ _; exact Nat.le_of_eq rfl) (hb hby d14_16) e2 (by decide) (by decide)
  have N4 := Fr.app N0 N4'
  have R4 := CHr.keep K4 sf0 CR2.1
  have CR4 := CR2.trans R4
  have hk4 := Nat.le_trans hk2 R4.2.1
  have c4 : Steps p.tables e below S0 (T4.setTop (mkF m 19 #[.val (.ref t), .val (.int (3 : Int32)), .val (.int (2 : Int32))] [(.ref u4), (.ref b2), (.ref b2)])) := c4'
  have c5 : Steps p.tables e below S0 (T4.setTop (mkF m 20 #[.val (.ref t), .val (.int (3 : Int32)), .val (.int (2 : Int32))] [(.int (0 : Int32)), (.ref u4), (.ref b2), (.ref b2)])) := c4.trans (by
    refine XS.iconst X4.here hx rfl (hb hby d14_19) ?_
    exact Steps.refl _)
  obtain ⟨v6, T6, L6, X6, ⟨N6', rfl, K6, E6, V6, Cd6⟩, c6'⟩ := own_spec X4 hx hml hZ hown rfl (hw _ (List.mem_of_getElem? (i := 102) rfl)) (hw _ (List.mem_of_getElem? (i := 103) rfl)) (hw _ (List.mem_of_getElem? (i := 104) rfl)) (by decide) (kc := 0) (ks := 0) (h := T4.heap) (W := 1) (b := b2) (argsL := [(.ref u4), (.int (0 : Int32))]) (rest := [(.ref b2)]) (own_pay (W := 1) (rmIB l Z a0 hw b2 u4 _ _ T4.heap ((O0.ext E2).keep K4 all0) (A2.keep K4) (F2_value.keep K4 nin0) (F2_coder.keep K4 nin0) ge2) hZ (hw _ (List.mem_of_getElem? (i := 104) rfl)) (hw _ (List.mem_of_getElem? (i := 4) rfl)) (by decide) (by decide)) c5 rfl rfl (lenOf pd_9 rfl) rfl (by show 2 * 0 + _ ≤ _; exact Nat.le_of_eq rfl) (hb hby d14_20) rfl (by decide) (by decide)
  have N6 := Fr.app N4 N6'
  have R6 := CHr.keep K6 (sfS (R4.safe A2.lt sf2) sf0) CR4.1
  have CR6 := CR4.trans R6
  have hk6 := Nat.le_trans hk4 R6.2.1
  have c6 : Steps p.tables e below S0 (T6.setTop (mkF m 23 #[.val (.ref t), .val (.int (3 : Int32)), .val (.int (2 : Int32))] [(.ref b2)])) := c6'
  refine ⟨T6, s.vm, _, (some (.ref b2)), _, _, _, X6, by decide, by decide, (fun q => by cases q), N6, hS0, hk6, hZ, CR6, ?_, fun fs hr => ?_⟩
  · skip
    exact ⟨b2, u4, ku4, rfl, ((((Keep.refl h0 []).ext E2).trans K4 all0).trans K6 (allS (Or.inr (Nat.le_trans (Keep.refl h0 []).1 lo2)) all0)), (Nat.le_trans (Keep.refl h0 []).1 lo2), E6, V6, Cd6, (Ku4.keep K6 (ninS (Ne.symm (Nat.ne_of_lt (Nat.lt_of_lt_of_le A2.lt lo4))) nin0))⟩
  · exact own_retR X6 hx c6 hret rfl rfl (hb hby d14_23) hr
set_option maxRecDepth 65536 in
set_option maxHeartbeats 40000000 in
theorem rmSub2 (l : Launch) (Z : State) (a0 : Array Value) (hw : ∀ d ∈ tables_1, d.before a0 Z = true) (hEL : EW Z a0 EL) (x t : Addr) (kb : ClassId) (xa xb xc xd : Int32) (z : Int32) (fm : Value) (h0 : Heap) (O0 : Old Z Z.heap.size h0) (E : Exa Z h0 x "java/lang/String") (V : Fld Z h0 x "java/lang/String" "value" "[B" (.ref t)) (Cd : Fld Z h0 x "java/lang/String" "coder" "B" (.int (0 : Int32))) (K : Arv Z h0 t kb .byte (Int32.ofNat ([(82 : Int32), (95 : Int32), (95 : Int32), xa, xb, (46 : Int32), (115 : Int32), (113 : Int32), (108 : Int32)] : List Int32).length) ((([(82 : Int32), (95 : Int32), (95 : Int32), xa, xb, (46 : Int32), (115 : Int32), (113 : Int32), (108 : Int32)] : List Int32).map (fun c : Int32 => c.toInt8.toInt32)).map Value.int) (.int (0 : Int32))) (hxa : own_B xa) (hxb : own_B xb) (hxc : own_B xc) (hxd : own_B xd) (SC : Sta Z Z.heap "java/lang/String" "COMPACT_STRINGS" "Z" (.int z)) (hz : ¬ z = 0) (SF : Sta Z Z.heap "jdk/internal/util/Preconditions" "SIOOBE_FORMATTER" "Ljava/util/function/BiFunction;" fm) (hfm : fm.isRef = true) :
    own_WC l Z EL (⟨"java/lang/String", "substring", "(II)Ljava/lang/String;"⟩ : MethodName) jdk_42_method_92_code 5 (some (.object "java/lang/String")) ({ frames := 5, cells := 6, slots := 40, locals := 110 } : Room) #[(.ref x), (.int (3 : Int32)), (.int (5 : Int32))] h0 [] (fun v h => (∃ (x t : Addr) (kb : ClassId), v = some (.ref x) ∧ Keep h0 h [] ∧ Exa Z h x "java/lang/String" ∧ Fld Z h x "java/lang/String" "value" "[B" (.ref t) ∧ Fld Z h x "java/lang/String" "coder" "B" (.int (0 : Int32)) ∧ Arv Z h t kb .byte (Int32.ofNat ([xa, xb] : List Int32).length) ((([xa, xb] : List Int32).map (fun c : Int32 => c.toInt8.toInt32)).map Value.int) (.int (0 : Int32)))) := by
  refine own_wc (plainFor_of_name (by first | (simp [plainName, overriddenIn]; done) | decide +kernel)) hEL ?_
  intro p e s m below meth c s₁ S0 X0 hx hby hml hret hnm hown hZ e0 hS0 CR0 hsf cc
  have N0 := Fr.nil Z.heap.size
  have hk0 : 0 ≤ h0.size := Nat.zero_le _
  have hstr : ∀ d ∈ Bundle.stringAtoms, d.before a0 Z = true := fun d hd => hw d (own_strA d hd)
  have c0 : Steps p.tables e below S0 (s₁.setTop (mkF m 0 #[.val (.ref x), .val (.int (3 : Int32)), .val (.int (5 : Int32)), .unset, .unset] [])) := cc.trans (XT.entry rfl)
  have c1 : Steps p.tables e below S0 (s₁.setTop (mkF m 1 #[.val (.ref x), .val (.int (3 : Int32)), .val (.int (5 : Int32)), .unset, .unset] [(.ref x)])) := c0.trans (by
    refine XS.aloadN X0.here hx rfl (hb hby d10_0) rfl rfl ?_
    exact Steps.refl _)
  obtain ⟨v2, T2, L2, X2, ⟨rfl, rfl, e2⟩, c2'⟩ := own_virt X0 hx hml hZ hown (hw _ (List.mem_of_getElem? (i := 55) rfl)) (hw _ (List.mem_of_getElem? (i := 40) rfl)) (hw _ (List.mem_of_getElem? (i := 42) rfl)) (hw _ (List.mem_of_getElem? (i := 41) rfl)) (hw _ (List.mem_of_getElem? (i := 42) rfl)) (by decide) (Q := fun v h' L => v = some (.int (Int32.ofNat ([(82 : Int32), (95 : Int32), (95 : Int32), xa, xb, (46 : Int32), (115 : Int32), (113 : Int32), (108 : Int32)] : List Int32).length)) ∧ L = [] ∧ h' = h0) (kc := 0) (ks := 0) (h := h0) (W := 0) (b := x) (argsL := []) (rest := []) (StrChars.Road.lenW (s := (s.setVm s.vm)) (R := ({ frames := 5, cells := 6, slots := 40, locals := 110 } : Room)) (W := 0) hZ (own_wl hw) (kI := 4) (hw _ (List.mem_of_getElem? (i := 3) rfl)) (cs := [(82 : Int32), (95 : Int32), (95 : Int32), xa, xb, (46 : Int32), (115 : Int32), (113 : Int32), (108 : Int32)]) E V Cd K (StrChars.Road.codOf (n := ([(82 : Int32), (95 : Int32), (95 : Int32), xa, xb, (46 : Int32), (115 : Int32), (113 : Int32), (108 : Int32)] : List Int32).length) rfl (fun c hc => ((own_cons (own_Bl 82 (by decide)) (own_cons (own_Bl 95 (by decide)) (own_cons (own_Bl 95 (by decide)) (own_cons hxa (own_cons hxb (own_cons (own_Bl 46 (by decide)) (own_cons (own_Bl 115 (by decide)) (own_cons (own_Bl 113 (by decide)) (own_cons (own_Bl 108 (by decide)) own_nil))))))))) c hc).rng.2)) (fun c hc => ((own_cons (own_Bl 82 (by decide)) (own_cons (own_Bl 95 (by decide)) (own_cons (own_Bl 95 (by decide)) (own_cons hxa (own_cons hxb (own_cons (own_Bl 46 (by decide)) (own_cons (own_Bl 115 (by decide)) (own_cons (own_Bl 113 (by decide)) (own_cons (own_Bl 108 (by decide)) own_nil))))))))) c hc).rng2) (SC.ext O0.2) hz (Nat.le_of_ble_eq_true rfl) (by decide) (by decide)) E c1 rfl rfl (lenOf pd_1 rfl) rfl (by show 2 * 0 + _ ≤ _; exact Nat.le_of_eq rfl) (hb hby d10_1) e0 (by decide) (by decide)
  have N2 := Fr.app N0 (Fr.nil _)
  have c2 : Steps p.tables e below S0 (T2.setTop (mkF m 4 #[.val (.ref x), .val (.int (3 : Int32)), .val (.int (5 : Int32)), .unset, .unset] [(.int (9 : Int32))])) := c2'
  have c3 : Steps p.tables e below S0 (T2.setTop (mkF m 8 #[.val (.ref x), .val (.int (3 : Int32)), .val (.int (5 : Int32)), .val (.int (9 : Int32)), .unset] [(.int (9 : Int32)), (.int (5 : Int32)), (.int (3 : Int32))])) := c2.trans (by
    refine XS.istoreN X2.here hx rfl (hb hby d10_4) rfl (l' := #[.val (.ref x), .val (.int (3 : Int32)), .val (.int (5 : Int32)), .val (.int (9 : Int32)), .unset]) rfl ?_
    refine XS.iloadN X2.here hx rfl (hb hby d10_5) rfl ?_
    refine XS.iloadN X2.here hx rfl (hb hby d10_6) rfl ?_
    refine XS.iloadN X2.here hx rfl (hb hby d10_7) rfl ?_
    exact Steps.refl _)
  obtain ⟨v4, T4, L4, X4, ⟨N4', rfl, e4⟩, c4'⟩ := own_stat X2 hx hml hZ hown (hw _ (List.mem_of_getElem? (i := 56) rfl)) (hw _ (List.mem_of_getElem? (i := 57) rfl)) (hw _ (List.mem_of_getElem? (i := 4) rfl)) (hw _ (List.mem_of_getElem? (i := 58) rfl)) (by decide) (kc := 0) (ks := 0) (h := h0) (W := 0) (argsL := [(.int (3 : Int32)), (.int (5 : Int32)), (.int (9 : Int32))]) (rest := []) (own_pay (W := 0) (rmCBE2 l Z a0 hw z fm h0 O0 SC hz SF hfm) hZ (hw _ (List.mem_of_getElem? (i := 58) rfl)) (hw _ (List.mem_of_getElem? (i := 4) rfl)) (by decide) (by decide)) c3 rfl rfl (lenOf pd_2 rfl) rfl (by show 2 * 0 + _ ≤ _; exact Nat.le_of_eq rfl) (hb hby d10_8) e2 (by decide) (by decide)
  have N4 := Fr.app N2 N4'
  have c4 : Steps p.tables e below S0 (T4.setTop (mkF m 11 #[.val (.ref x), .val (.int (3 : Int32)), .val (.int (5 : Int32)), .val (.int (9 : Int32)), .unset] [])) := c4'
  have c5 : Steps p.tables e below S0 (T4.setTop (mkF m 28 #[.val (.ref x), .val (.int (3 : Int32)), .val (.int (5 : Int32)), .val (.int (9 : Int32)), .val (.int (2 : Int32))] [(.ref x)])) := c4.trans (by
    refine XS.iloadN X4.here hx rfl (hb hby d10_11) rfl ?_
    refine XS.ifYes X4.here hx rfl (pc0 := 12) (pc' := 22) rfl (hb hby d10_12) rfl ((if0 _ _).trans (feq (by decide : ¬ ((3 : Int32) = (0 : Int32)))).2) (by decide) (by decide) ?_
    refine XS.iloadN X4.here hx rfl (hb hby d10_22) rfl ?_
    refine XS.iloadN X4.here hx rfl (hb hby d10_23) rfl ?_
    refine XS.isub X4.here hx rfl (hb hby d10_24) rfl ?_
    refine XS.istore X4.here hx rfl (hb hby d10_25) rfl (l' := #[.val (.ref x), .val (.int (3 : Int32)), .val (.int (5 : Int32)), .val (.int (9 : Int32)), .val (.int (2 : Int32))]) rfl ?_
    refine XS.aloadN X4.here hx rfl (hb hby d10_27) rfl rfl ?_
    exact Steps.refl _)
  obtain ⟨v6, T6, L6, X6, ⟨N6', rfl, e6⟩, c6'⟩ := own_virt X4 hx hml hZ hown (hw _ (List.mem_of_getElem? (i := 64) rfl)) (hw _ (List.mem_of_getElem? (i := 65) rfl)) (hw _ (List.mem_of_getElem? (i := 67) rfl)) (hw _ (List.mem_of_getElem? (i := 66) rfl)) (hw _ (List.mem_of_getElem? (i := 67) rfl)) (by decide) (kc := 0) (ks := 0) (h := h0) (W := 0) (b := x) (argsL := []) (rest := []) (own_pay (W := 0) (rmIsL l Z a0 hw x z fm h0 O0 Cd SC hz SF hfm) hZ (hw _ (List.mem_of_getElem? (i := 68) rfl)) (hw _ (List.mem_of_getElem? (i := 4) rfl)) (by decide) (by decide)) E c5 rfl rfl (lenOf pd_3 rfl) rfl (by show 2 * 0 + _ ≤ _; exact Nat.le_of_eq rfl) (hb hby d10_28) e4 (by decide) (by decide)
  have N6 := Fr.app N4 N6'
  have c6 : Steps p.tables e below S0 (T6.setTop (mkF m 31 #[.val (.ref x), .val (.int (3 : Int32)), .val (.int (5 : Int32)), .val (.int (9 : Int32)), .val (.int (2 : Int32))] [(.int (1 : Int32))])) := c6'
  have c7 : Steps p.tables e below S0 (T6.setTop (mkF m 35 #[.val (.ref x), .val (.int (3 : Int32)), .val (.int (5 : Int32)), .val (.int (9 : Int32)), .val (.int (2 : Int32))] [(.ref x)])) := c6.trans (by
    refine XS.ifNo X6.here hx rfl (hb hby d10_31) rfl ((if0 _ _).trans (feq (by decide : ¬ ((1 : Int32) = (0 : Int32)))).1) ?_
    refine XS.aloadN X6.here hx rfl (hb hby d10_34) rfl rfl ?_
    exact Steps.refl _)
  obtain ⟨T8, X8, e8, st8⟩ := getF X6 hx hZ hown (host := "") (Or.inl (hw _ (List.mem_of_getElem? (i := 29) rfl))) Via.refl e6 V (g := (mkF m 35 #[.val (.ref x), .val (.int (3 : Int32)), .val (.int (5 : Int32)), .val (.int (9 : Int32)), .val (.int (2 : Int32))] [(.ref x)])) rfl rfl (hb hby d10_35)
  have c8 : Steps p.tables e below S0 (T8.setTop (mkF m 38 #[.val (.ref x), .val (.int (3 : Int32)), .val (.int (5 : Int32)), .val (.int (9 : Int32)), .val (.int (2 : Int32))] [(.ref t)])) := c7.trans (st8 _ (Steps.refl _))
  have c9 : Steps p.tables e below S0 (T8.setTop (mkF m 41 #[.val (.ref x), .val (.int (3 : Int32)), .val (.int (5 : Int32)), .val (.int (9 : Int32)), .val (.int (2 : Int32))] [(.int (2 : Int32)), (.int (3 : Int32)), (.ref t)])) := c8.trans (by
    refine XS.iloadN X8.here hx rfl (hb hby d10_38) rfl ?_
    refine XS.iload X8.here hx rfl (hb hby d10_39) rfl ?_
    exact Steps.refl _)
  obtain ⟨v10, T10, L10, X10, hS10, hZ10, hown10, R10, ⟨N10', x10, t10, kb10, rfl, K10, lo10, E10, V10, Cd10, Kb10⟩, c10'⟩ := own_wstat X8 hx hml hZ hown hS0 hk0 (hw _ (List.mem_of_getElem? (i := 69) rfl)) (hw _ (List.mem_of_getElem? (i := 70) rfl)) (hw _ (List.mem_of_getElem? (i := 71) rfl)) (hw _ (List.mem_of_getElem? (i := 72) rfl)) (by decide) (kc := 6) (ks := 40) (h := h0) (W := 0) (argsL := [(.ref t), (.int (3 : Int32)), (.int (2 : Int32))]) (rest := []) (own_wpay (W := 0) (rmNS2 l Z a0 hw hEL t kb xa xb xc xd h0 O0 K) hZ (hw _ (List.mem_of_getElem? (i := 72) rfl)) (hw _ (List.mem_of_getElem? (i := 71) rfl)) (by decide) (by decide) hEL CR0.1 all0) c9 rfl rfl (lenOf pd_4 rfl) rfl (by show 2 * 0 + _ ≤ _; exact Nat.le_of_eq rfl) (hb hby d10_41) e8 (by decide) (by decide)
  have N10 := Fr.app N6 N10'
  have CR10 := CR0.trans R10
  have c10 : Steps p.tables e below S0 (T10.setTop (mkF m 44 #[.val (.ref x), .val (.int (3 : Int32)), .val (.int (5 : Int32)), .val (.int (9 : Int32)), .val (.int (2 : Int32))] [(.ref x10)])) := c10'
  have c11 : Steps p.tables e below S0 (T10.setTop (mkF m 57 #[.val (.ref x), .val (.int (3 : Int32)), .val (.int (5 : Int32)), .val (.int (9 : Int32)), .val (.int (2 : Int32))] [(.ref x10)])) := c10.trans (by
    refine XS.goto X10.here hx rfl (pc0 := 44) (pc' := 57) rfl (hb hby d10_44) (by decide) (by decide) ?_
    exact Steps.refl _)
  refine ⟨T10, T10.vm, _, (some (.ref x10)), _, _, _, X10, by decide, by decide, (fun q => by cases q), N10, hS10, (Nat.le_refl _), hZ10, CR10, ?_, fun fs hr => ?_⟩
  · skip
    exact ⟨x10, t10, kb10, rfl, ((Keep.refl h0 []).trans K10 all0), E10, V10, Cd10, Kb10⟩
  · exact own_retR X10 hx c11 hret rfl rfl (hb hby d10_57) hr
set_option maxRecDepth 65536 in
set_option maxHeartbeats 40000000 in
theorem rmRN2 (l : Launch) (Z : State) (a0 : Array Value) (hw : ∀ d ∈ tables_1, d.before a0 Z = true) (hEL : EW Z a0 EL) (x t : Addr) (kb : ClassId) (xa xb xc xd : Int32) (z : Int32) (fm : Value) (h0 : Heap) (O0 : Old Z Z.heap.size h0) (E : Exa Z h0 x "java/lang/String") (V : Fld Z h0 x "java/lang/String" "value" "[B" (.ref t)) (Cd : Fld Z h0 x "java/lang/String" "coder" "B" (.int (0 : Int32))) (K : Arv Z h0 t kb .byte (Int32.ofNat ([(82 : Int32), (95 : Int32), (95 : Int32), xa, xb, (46 : Int32), (115 : Int32), (113 : Int32), (108 : Int32)] : List Int32).length) ((([(82 : Int32), (95 : Int32), (95 : Int32), xa, xb, (46 : Int32), (115 : Int32), (113 : Int32), (108 : Int32)] : List Int32).map (fun c : Int32 => c.toInt8.toInt32)).map Value.int) (.int (0 : Int32))) (hxa : own_B xa) (hxb : own_B xb) (hxc : own_B xc) (hxd : own_B xd) (SC : Sta Z Z.heap "java/lang/String" "COMPACT_STRINGS" "Z" (.int z)) (hz : ¬ z = 0) (SF : Sta Z Z.heap "jdk/internal/util/Preconditions" "SIOOBE_FORMATTER" "Ljava/util/function/BiFunction;" fm) (hfm : fm.isRef = true) :
    own_WC l Z EL (⟨"com/example/cambio/cambio/io/MigrationFolder", "repeatableName", "(Ljava/lang/String;)Ljava/lang/String;"⟩ : MethodName) prog_23_method_6_code 1 (some (.object "java/lang/String")) ({ frames := 6, cells := 10, slots := 100, locals := 150 } : Room) #[(.ref x)] h0 [] (fun v h => (∃ (x t : Addr) (kb : ClassId), v = some (.ref x) ∧ Keep h0 h [] ∧ Exa Z h x "java/lang/String" ∧ Fld Z h x "java/lang/String" "value" "[B" (.ref t) ∧ Fld Z h x "java/lang/String" "coder" "B" (.int (0 : Int32)) ∧ Arv Z h t kb .byte (Int32.ofNat ([xa, xb] : List Int32).length) ((([xa, xb] : List Int32).map (fun c : Int32 => c.toInt8.toInt32)).map Value.int) (.int (0 : Int32)))) := by
  refine own_wc (plainFor_of_name (by first | (simp [plainName, overriddenIn]; done) | decide +kernel)) hEL ?_
  intro p e s m below meth c s₁ S0 X0 hx hby hml hret hnm hown hZ e0 hS0 CR0 hsf cc
  have N0 := Fr.nil Z.heap.size
  have hk0 : 0 ≤ h0.size := Nat.zero_le _
  have hstr : ∀ d ∈ Bundle.stringAtoms, d.before a0 Z = true := fun d hd => hw d (own_strA d hd)
  have c0 : Steps p.tables e below S0 (s₁.setTop (mkF m 0 #[.val (.ref x)] [])) := cc.trans (XT.entry rfl)
  have c1 : Steps p.tables e below S0 (s₁.setTop (mkF m 1 #[.val (.ref x)] [(.ref x)])) := c0.trans (by
    refine XS.aloadN X0.here hx rfl (hb hby d7_0) rfl rfl ?_
    exact Steps.refl _)
  obtain ⟨la_2, T2, h2, kn2, lb_2, lk2, X2, e2, E2, hS2, hk2, hZ2, hown2, Ea2, Ca2, Va2, Kb2, la2, lb2, R2, Lt2, ne2, st2⟩ := ldcCH X0 hx hZ hown (hw _ (List.mem_of_getElem? (i := 38) rfl)) hstr e0 hS0 hk0 hEL (by decide) CR0.1 (vs := [(.int (82 : Int32)), (.int (95 : Int32)), (.int (95 : Int32))]) (z := (3 : Int32)) ⟨by decide, by decide⟩ (by decide) (by decide) (g := (mkF m 1 #[.val (.ref x)] [(.ref x)])) rfl (hb hby d7_1) (n := 12) (by decide) (by decide) (by decide) (by decide)
  have CR2 := CR0.trans R2
  have c2 : Steps p.tables e below S0 (T2.setTop (mkF m 3 #[.val (.ref x)] [(.ref la_2), (.ref x)])) := c1.trans (st2 _ (Steps.refl _))
  obtain ⟨v3, T3, L3, X3, ⟨rfl, rfl, e3⟩, c3'⟩ := own_virt X2 hx hml hZ2 hown2 (hw _ (List.mem_of_getElem? (i := 39) rfl)) (hw _ (List.mem_of_getElem? (i := 40) rfl)) (hw _ (List.mem_of_getElem? (i := 42) rfl)) (hw _ (List.mem_of_getElem? (i := 41) rfl)) (hw _ (List.mem_of_getElem? (i := 42) rfl)) (by decide) (Q := fun v h' L => v = some (.int (Int32.ofNat ([(82 : Int32), (95 : Int32), (95 : Int32)] : List Int32).length)) ∧ L = [] ∧ h' = h2) (kc := 0) (ks := 0) (h := h2) (W := 1) (b := la_2) (argsL := []) (rest := [(.ref x)]) (StrChars.Road.lenW (s := (s.setVm T2.vm)) (R := ({ frames := 6, cells := 10, slots := 100, locals := 150 } : Room)) (W := 1) hZ2 (own_wl hw) (kI := 4) (hw _ (List.mem_of_getElem? (i := 3) rfl)) (cs := [(82 : Int32), (95 : Int32), (95 : Int32)]) Ea2 Va2 Ca2 Kb2 (StrChars.Road.codOf (n := ([(82 : Int32), (95 : Int32), (95 : Int32)] : List Int32).length) rfl (fun c hc => ((own_cons (own_Bl 82 (by decide)) (own_cons (own_Bl 95 (by decide)) (own_cons (own_Bl 95 (by decide)) own_nil))) c hc).rng.2)) (fun c hc => ((own_cons (own_Bl 82 (by decide)) (own_cons (own_Bl 95 (by decide)) (own_cons (own_Bl 95 (by decide)) own_nil))) c hc).rng2) (SC.ext (O0.ext E2).2) hz (Nat.le_of_ble_eq_true rfl) (by decide) (by decide)) Ea2 c2 rfl rfl (lenOf pd_1 rfl) rfl (by show 2 * 0 + _ ≤ _; exact Nat.le_of_eq rfl) (hb hby d7_3) e2 (by decide) (by decide)
  have N3 := Fr.app N0 (Fr.nil _)
  have c3 : Steps p.tables e below S0 (T3.setTop (mkF m 6 #[.val (.ref x)] [(.int (3 : Int32)), (.ref x)])) := c3'
  have c4 : Steps p.tables e below S0 (T3.setTop (mkF m 7 #[.val (.ref x)] [(.ref x), (.int (3 : Int32)), (.ref x)])) := c3.trans (by
    refine XS.aloadN X3.here hx rfl (hb hby d7_6) rfl rfl ?_
    exact Steps.refl _)
  obtain ⟨v5, T5, L5, X5, ⟨rfl, rfl, e5⟩, c5'⟩ := own_virt X3 hx hml hZ2 hown2 (hw _ (List.mem_of_getElem? (i := 39) rfl)) (hw _ (List.mem_of_getElem? (i := 40) rfl)) (hw _ (List.mem_of_getElem? (i := 42) rfl)) (hw _ (List.mem_of_getElem? (i := 41) rfl)) (hw _ (List.mem_of_getElem? (i := 42) rfl)) (by decide) (Q := fun v h' L => v = some (.int (Int32.ofNat ([(82 : Int32), (95 : Int32), (95 : Int32), xa, xb, (46 : Int32), (115 : Int32), (113 : Int32), (108 : Int32)] : List Int32).length)) ∧ L = [] ∧ h' = h2) (kc := 0) (ks := 0) (h := h2) (W := 2) (b := x) (argsL := []) (rest := [(.int (3 : Int32)), (.ref x)]) (StrChars.Road.lenW (s := (s.setVm T2.vm)) (R := ({ frames := 6, cells := 10, slots := 100, locals := 150 } : Room)) (W := 2) hZ2 (own_wl hw) (kI := 4) (hw _ (List.mem_of_getElem? (i := 3) rfl)) (cs := [(82 : Int32), (95 : Int32), (95 : Int32), xa, xb, (46 : Int32), (115 : Int32), (113 : Int32), (108 : Int32)]) (E.ext E2) (V.ext E2) (Cd.ext E2) (K.ext E2) (StrChars.Road.codOf (n := ([(82 : Int32), (95 : Int32), (95 : Int32), xa, xb, (46 : Int32), (115 : Int32), (113 : Int32), (108 : Int32)] : List Int32).length) rfl (fun c hc => ((own_cons (own_Bl 82 (by decide)) (own_cons (own_Bl 95 (by decide)) (own_cons (own_Bl 95 (by decide)) (own_cons hxa (own_cons hxb (own_cons (own_Bl 46 (by decide)) (own_cons (own_Bl 115 (by decide)) (own_cons (own_Bl 113 (by decide)) (own_cons (own_Bl 108 (by decide)) own_nil))))))))) c hc).rng.2)) (fun c hc => ((own_cons (own_Bl 82 (by decide)) (own_cons (own_Bl 95 (by decide)) (own_cons (own_Bl 95 (by decide)) (own_cons hxa (own_cons hxb (own_cons (own_Bl 46 (by decide)) (own_cons (own_Bl 115 (by decide)) (own_cons (own_Bl 113 (by decide)) (own_cons (own_Bl 108 (by decide)) own_nil))))))))) c hc).rng2) (SC.ext (O0.ext E2).2) hz (Nat.le_of_ble_eq_true rfl) (by decide) (by decide)) (E.ext E2) c4 rfl rfl (lenOf pd_1 rfl) rfl (by show 2 * 0 + _ ≤ _; exact Nat.le_of_eq rfl) (hb hby d7_7) e3 (by decide) (by decide)
  have N5 := Fr.app N3 (Fr.nil _)
  have c5 : Steps p.tables e below S0 (T5.setTop (mkF m 10 #[.val (.ref x)] [(.int (9 : Int32)), (.int (3 : Int32)), (.ref x)])) := c5'
  obtain ⟨la_6, T6, h6, kn6, lb_6, lk6, X6, e6, E6, hS6, hk6, hZ6, hown6, Ea6, Ca6, Va6, Kb6, la6, lb6, R6, Lt6, ne6, st6⟩ := ldcCH X5 hx hZ2 hown2 (hw _ (List.mem_of_getElem? (i := 49) rfl)) hstr e5 hS2 hk2 hEL (by decide) CR2.1 (vs := [(.int (46 : Int32)), (.int (115 : Int32)), (.int (113 : Int32)), (.int (108 : Int32))]) (z := (4 : Int32)) ⟨by decide, by decide⟩ (by decide) (by decide) (g := (mkF m 10 #[.val (.ref x)] [(.int (9 : Int32)), (.int (3 : Int32)), (.ref x)])) rfl (hb hby d7_10) (n := 16) (by decide) (by decide) (by decide) (by decide)
  have CR6 := CR2.trans R6
  have c6 : Steps p.tables e below S0 (T6.setTop (mkF m 12 #[.val (.ref x)] [(.ref la_6), (.int (9 : Int32)), (.int (3 : Int32)), (.ref x)])) := c5.trans (st6 _ (Steps.refl _))
  obtain ⟨v7, T7, L7, X7, ⟨rfl, rfl, e7⟩, c7'⟩ := own_virt X6 hx hml hZ6 hown6 (hw _ (List.mem_of_getElem? (i := 39) rfl)) (hw _ (List.mem_of_getElem? (i := 40) rfl)) (hw _ (List.mem_of_getElem? (i := 42) rfl)) (hw _ (List.mem_of_getElem? (i := 41) rfl)) (hw _ (List.mem_of_getElem? (i := 42) rfl)) (by decide) (Q := fun v h' L => v = some (.int (Int32.ofNat ([(46 : Int32), (115 : Int32), (113 : Int32), (108 : Int32)] : List Int32).length)) ∧ L = [] ∧ h' = h6) (kc := 0) (ks := 0) (h := h6) (W := 3) (b := la_6) (argsL := []) (rest := [(.int (9 : Int32)), (.int (3 : Int32)), (.ref x)]) (StrChars.Road.lenW (s := (s.setVm T6.vm)) (R := ({ frames := 6, cells := 10, slots := 100, locals := 150 } : Room)) (W := 3) hZ6 (own_wl hw) (kI := 4) (hw _ (List.mem_of_getElem? (i := 3) rfl)) (cs := [(46 : Int32), (115 : Int32), (113 : Int32), (108 : Int32)]) Ea6 Va6 Ca6 Kb6 (StrChars.Road.codOf (n := ([(46 : Int32), (115 : Int32), (113 : Int32), (108 : Int32)] : List Int32).length) rfl (fun c hc => ((own_cons (own_Bl 46 (by decide)) (own_cons (own_Bl 115 (by decide)) (own_cons (own_Bl 113 (by decide)) (own_cons (own_Bl 108 (by decide)) own_nil)))) c hc).rng.2)) (fun c hc => ((own_cons (own_Bl 46 (by decide)) (own_cons (own_Bl 115 (by decide)) (own_cons (own_Bl 113 (by decide)) (own_cons (own_Bl 108 (by decide)) own_nil)))) c hc).rng2) (SC.ext ((O0.ext E2).ext E6).2) hz (Nat.le_of_ble_eq_true rfl) (by decide) (by decide)) Ea6 c6 rfl rfl (lenOf pd_1 rfl) rfl (by show 2 * 0 + _ ≤ _; exact Nat.le_of_eq rfl) (hb hby d7_12) e6 (by decide) (by decide)
  have N7 := Fr.app N5 (Fr.nil _)
  have c7 : Steps p.tables e below S0 (T7.setTop (mkF m 15 #[.val (.ref x)] [(.int (4 : Int32)), (.int (9 : Int32)), (.int (3 : Int32)), (.ref x)])) := c7'
  have c8 : Steps p.tables e below S0 (T7.setTop (mkF m 16 #[.val (.ref x)] [(.int (5 : Int32)), (.int (3 : Int32)), (.ref x)])) := c7.trans (by
    refine XS.isub X7.here hx rfl (hb hby d7_15) rfl ?_
    exact Steps.refl _)
  obtain ⟨v9, T9, L9, X9, hS9, hZ9, hown9, R9, ⟨N9', x9, t9, kb9, rfl, K9, E9, V9, Cd9, Kb9⟩, c9'⟩ := own_wvirt X7 hx hml hZ6 hown6 hS6 hk6 (hw _ (List.mem_of_getElem? (i := 50) rfl)) (hw _ (List.mem_of_getElem? (i := 51) rfl)) (hw _ (List.mem_of_getElem? (i := 53) rfl)) (hw _ (List.mem_of_getElem? (i := 52) rfl)) (hw _ (List.mem_of_getElem? (i := 53) rfl)) (by decide) (kc := 6) (ks := 40) (h := h6) (W := 0) (b := x) (argsL := [(.int (3 : Int32)), (.int (5 : Int32))]) (rest := []) (own_wpay (W := 0) (rmSub2 l Z a0 hw hEL x t kb xa xb xc xd z fm h6 ((O0.ext E2).ext E6) ((E.ext E2).ext E6) ((V.ext E2).ext E6) ((Cd.ext E2).ext E6) ((K.ext E2).ext E6) hxa hxb hxc hxd SC hz SF hfm) hZ6 (hw _ (List.mem_of_getElem? (i := 54) rfl)) (hw _ (List.mem_of_getElem? (i := 4) rfl)) (by decide) (by decide) hEL CR6.1 all0) ((E.ext E2).ext E6) c8 rfl rfl (lenOf pd_5 rfl) rfl (by show 2 * 0 + _ ≤ _; exact Nat.le_of_eq rfl) (hb hby d7_16) e7 (by decide) (by decide)
  have N9 := Fr.app N7 N9'
  have CR9 := CR6.trans R9
  have c9 : Steps p.tables e below S0 (T9.setTop (mkF m 19 #[.val (.ref x)] [(.ref x9)])) := c9'
  refine ⟨T9, T9.vm, _, (some (.ref x9)), _, _, _, X9, by decide, by decide, (fun q => by cases q), N9, hS9, (Nat.le_refl _), hZ9, CR9, ?_, fun fs hr => ?_⟩
  · skip
    exact ⟨x9, t9, kb9, rfl, ((((Keep.refl h0 []).ext E2).ext E6).trans K9 all0), E9, V9, Cd9, Kb9⟩
  · exact own_retR X9 hx c9 hret rfl rfl (hb hby d7_19) hr
set_option maxRecDepth 65536 in
set_option maxHeartbeats 40000000 in
theorem rmCFT_3_6_10n (l : Launch) (Z : State) (a0 : Array Value) (hw : ∀ d ∈ tables_1, d.before a0 Z = true)  (h0 : Heap) (O0 : Old Z Z.heap.size h0)  :
    own_NC l Z (⟨"jdk/internal/util/Preconditions", "checkFromToIndex", "(IIILjava/util/function/BiFunction;)I"⟩ : MethodName) jdk_41_method_12_code 4 (some .int) ({ frames := 0, cells := 0, slots := 0, locals := 0 } : Room) #[(.int (3 : Int32)), (.int (6 : Int32)), (.int (10 : Int32)), .null] h0 (fun v h => v = some (.int (3 : Int32)) ∧ h = h0) := by
  refine own_nc (plainFor_of_name (by first | (simp [plainName, overriddenIn]; done) | decide +kernel)) ?_
  intro p e s m below meth c s₁ S0 X0 hx hby hml hret hnm hown hZ e0 cc
  have N0 := Fr.nil Z.heap.size
  have c0 : Steps p.tables e below S0 (s₁.setTop (mkF m 0 #[.val (.int (3 : Int32)), .val (.int (6 : Int32)), .val (.int (10 : Int32)), .val .null] [])) := cc.trans (XT.entry rfl)
  have c1 : Steps p.tables e below S0 (s₁.setTop (mkF m 23 #[.val (.int (3 : Int32)), .val (.int (6 : Int32)), .val (.int (10 : Int32)), .val .null] [(.int (3 : Int32))])) := c0.trans (by
    refine XS.iloadN X0.here hx rfl (hb hby d12_0) rfl ?_
    refine XS.ifNo X0.here hx rfl (hb hby d12_1) rfl ((if0 _ _).trans (flt (by decide : ¬ ((3 : Int32) < (0 : Int32)))).1) ?_
    refine XS.iloadN X0.here hx rfl (hb hby d12_4) rfl ?_
    refine XS.iloadN X0.here hx rfl (hb hby d12_5) rfl ?_
    refine XS.icmpNo X0.here hx rfl (hb hby d12_6) rfl (flt (by decide : ¬ ((6 : Int32) < (3 : Int32)))).2.2.1 ?_
    refine XS.iloadN X0.here hx rfl (hb hby d12_9) rfl ?_
    refine XS.iloadN X0.here hx rfl (hb hby d12_10) rfl ?_
    refine XS.icmpYes X0.here hx rfl (pc0 := 11) (pc' := 22) rfl (hb hby d12_11) rfl (flt (by decide : ¬ ((10 : Int32) < (6 : Int32)))).2.2.2 (by decide) (by decide) ?_
    refine XS.iloadN X0.here hx rfl (hb hby d12_22) rfl ?_
    exact Steps.refl _)
  refine ⟨s₁, (some (.int (3 : Int32))), _, _, _, X0, by decide, by decide, (fun q => by cases q), N0, ?_, fun fs hr => ?_⟩
  · rw [e0]
    exact ⟨rfl, rfl⟩
  · exact c1.trans (retI X0 hx hret (hb hby d12_23) hr)
set_option maxRecDepth 65536 in
set_option maxHeartbeats 40000000 in
theorem rmCFT_3_6_10r (l : Launch) (Z : State) (a0 : Array Value) (hw : ∀ d ∈ tables_1, d.before a0 Z = true) (fa : Addr) (h0 : Heap) (O0 : Old Z Z.heap.size h0)  :
    own_NC l Z (⟨"jdk/internal/util/Preconditions", "checkFromToIndex", "(IIILjava/util/function/BiFunction;)I"⟩ : MethodName) jdk_41_method_12_code 4 (some .int) ({ frames := 0, cells := 0, slots := 0, locals := 0 } : Room) #[(.int (3 : Int32)), (.int (6 : Int32)), (.int (10 : Int32)), (.ref fa)] h0 (fun v h => v = some (.int (3 : Int32)) ∧ h = h0) := by
  refine own_nc (plainFor_of_name (by first | (simp [plainName, overriddenIn]; done) | decide +kernel)) ?_
  intro p e s m below meth c s₁ S0 X0 hx hby hml hret hnm hown hZ e0 cc
  have N0 := Fr.nil Z.heap.size
  have c0 : Steps p.tables e below S0 (s₁.setTop (mkF m 0 #[.val (.int (3 : Int32)), .val (.int (6 : Int32)), .val (.int (10 : Int32)), .val (.ref fa)] [])) := cc.trans (XT.entry rfl)
  have c1 : Steps p.tables e below S0 (s₁.setTop (mkF m 23 #[.val (.int (3 : Int32)), .val (.int (6 : Int32)), .val (.int (10 : Int32)), .val (.ref fa)] [(.int (3 : Int32))])) := c0.trans (by
    refine XS.iloadN X0.here hx rfl (hb hby d12_0) rfl ?_
    refine XS.ifNo X0.here hx rfl (hb hby d12_1) rfl ((if0 _ _).trans (flt (by decide : ¬ ((3 : Int32) < (0 : Int32)))).1) ?_
    refine XS.iloadN X0.here hx rfl (hb hby d12_4) rfl ?_
    refine XS.iloadN X0.here hx rfl (hb hby d12_5) rfl ?_
    refine XS.icmpNo X0.here hx rfl (hb hby d12_6) rfl (flt (by decide : ¬ ((6 : Int32) < (3 : Int32)))).2.2.1 ?_
    refine XS.iloadN X0.here hx rfl (hb hby d12_9) rfl ?_
    refine XS.iloadN X0.here hx rfl (hb hby d12_10) rfl ?_
    refine XS.icmpYes X0.here hx rfl (pc0 := 11) (pc' := 22) rfl (hb hby d12_11) rfl (flt (by decide : ¬ ((10 : Int32) < (6 : Int32)))).2.2.2 (by decide) (by decide) ?_
    refine XS.iloadN X0.here hx rfl (hb hby d12_22) rfl ?_
    exact Steps.refl _)
  refine ⟨s₁, (some (.int (3 : Int32))), _, _, _, X0, by decide, by decide, (fun q => by cases q), N0, ?_, fun fs hr => ?_⟩
  · rw [e0]
    exact ⟨rfl, rfl⟩
  · exact c1.trans (retI X0 hx hret (hb hby d12_23) hr)
theorem rmCFT_3_6_10 (l : Launch) (Z : State) (a0 : Array Value) (hw : ∀ d ∈ tables_1, d.before a0 Z = true) (fm : Value) (h0 : Heap) (O0 : Old Z Z.heap.size h0) (hfm : fm.isRef = true) : own_NC l Z (⟨"jdk/internal/util/Preconditions", "checkFromToIndex", "(IIILjava/util/function/BiFunction;)I"⟩ : MethodName) jdk_41_method_12_code 4 (some .int) ({ frames := 0, cells := 0, slots := 0, locals := 0 } : Room) #[(.int (3 : Int32)), (.int (6 : Int32)), (.int (10 : Int32)), fm] h0 (fun v h => v = some (.int (3 : Int32)) ∧ h = h0) := by
  rcases ref_cases hfm with rfl | ⟨fa, rfl⟩
  · exact rmCFT_3_6_10n l Z a0 hw h0 O0
  · exact rmCFT_3_6_10r l Z a0 hw fa h0 O0
set_option maxRecDepth 65536 in
set_option maxHeartbeats 40000000 in
theorem rmCBE3 (l : Launch) (Z : State) (a0 : Array Value) (hw : ∀ d ∈ tables_1, d.before a0 Z = true) (z : Int32) (fm : Value) (h0 : Heap) (O0 : Old Z Z.heap.size h0) (SC : Sta Z Z.heap "java/lang/String" "COMPACT_STRINGS" "Z" (.int z)) (hz : ¬ z = 0) (SF : Sta Z Z.heap "jdk/internal/util/Preconditions" "SIOOBE_FORMATTER" "Ljava/util/function/BiFunction;" fm) (hfm : fm.isRef = true) :
    own_NC l Z (⟨"java/lang/String", "checkBoundsBeginEnd", "(III)V"⟩ : MethodName) jdk_42_method_158_code 3 none ({ frames := 1, cells := 0, slots := 0, locals := 20 } : Room) #[(.int (3 : Int32)), (.int (6 : Int32)), (.int (10 : Int32))] h0 (fun v h => v = none ∧ h = h0) := by
  refine own_nc (plainFor_of_name (by first | (simp [plainName, overriddenIn]; done) | decide +kernel)) ?_
  intro p e s m below meth c s₁ S0 X0 hx hby hml hret hnm hown hZ e0 cc
  have N0 := Fr.nil Z.heap.size
  have c0 : Steps p.tables e below S0 (s₁.setTop (mkF m 0 #[.val (.int (3 : Int32)), .val (.int (6 : Int32)), .val (.int (10 : Int32))] [])) := cc.trans (XT.entry rfl)
  have c1 : Steps p.tables e below S0 (s₁.setTop (mkF m 3 #[.val (.int (3 : Int32)), .val (.int (6 : Int32)), .val (.int (10 : Int32))] [(.int (10 : Int32)), (.int (6 : Int32)), (.int (3 : Int32))])) := c0.trans (by
    refine XS.iloadN X0.here hx rfl (hb hby d11_0) rfl ?_
    refine XS.iloadN X0.here hx rfl (hb hby d11_1) rfl ?_
    refine XS.iloadN X0.here hx rfl (hb hby d11_2) rfl ?_
    exact Steps.refl _)
  obtain ⟨T2, X2, e2, st2⟩ := getS2 X0 hx hZ hown (host := "") (Or.inl (hw _ (List.mem_of_getElem? (i := 59) rfl))) Via.refl e0 (SF.ext O0.2) (g := (mkF m 3 #[.val (.int (3 : Int32)), .val (.int (6 : Int32)), .val (.int (10 : Int32))] [(.int (10 : Int32)), (.int (6 : Int32)), (.int (3 : Int32))])) rfl (hb hby d11_3)
  have c2 : Steps p.tables e below S0 (T2.setTop (mkF m 6 #[.val (.int (3 : Int32)), .val (.int (6 : Int32)), .val (.int (10 : Int32))] [fm, (.int (10 : Int32)), (.int (6 : Int32)), (.int (3 : Int32))])) := c1.trans (st2 _ (Steps.refl _))
  obtain ⟨v3, T3, L3, X3, ⟨N3', rfl, e3⟩, c3'⟩ := own_stat X2 hx hml hZ hown (hw _ (List.mem_of_getElem? (i := 61) rfl)) (hw _ (List.mem_of_getElem? (i := 62) rfl)) (hw _ (List.mem_of_getElem? (i := 60) rfl)) (hw _ (List.mem_of_getElem? (i := 63) rfl)) (by decide) (kc := 0) (ks := 0) (h := h0) (W := 0) (argsL := [(.int (3 : Int32)), (.int (6 : Int32)), (.int (10 : Int32)), fm]) (rest := []) (own_pay (W := 0) (rmCFT_3_6_10 l Z a0 hw fm h0 O0 hfm) hZ (hw _ (List.mem_of_getElem? (i := 63) rfl)) (hw _ (List.mem_of_getElem? (i := 60) rfl)) (by decide) (by decide)) c2 rfl rfl (lenOf pd_0 rfl) rfl (by show 2 * 0 + _ ≤ _; exact Nat.le_of_eq rfl) (hb hby d11_6) e2 (by decide) (by decide)
  have N3 := Fr.app N0 N3'
  have c3 : Steps p.tables e below S0 (T3.setTop (mkF m 9 #[.val (.int (3 : Int32)), .val (.int (6 : Int32)), .val (.int (10 : Int32))] [(.int (3 : Int32))])) := c3'
  have c4 : Steps p.tables e below S0 (T3.setTop (mkF m 10 #[.val (.int (3 : Int32)), .val (.int (6 : Int32)), .val (.int (10 : Int32))] [])) := c3.trans (by
    refine XS.pop X3.here hx rfl (hb hby d11_9) rfl rfl ?_
    exact Steps.refl _)
  refine ⟨T3, none, _, _, _, X3, by decide, by decide, (fun _ => rfl), N3, ?_, fun fs hr => ?_⟩
  · rw [e3]
    exact ⟨rfl, rfl⟩
  · exact c4.trans (X3.returnOut hx hret (hb hby d11_10) hr)
set_option maxRecDepth 65536 in
set_option maxHeartbeats 40000000 in
theorem rmCL3 (l : Launch) (Z : State) (a0 : Array Value) (hw : ∀ d ∈ tables_1, d.before a0 Z = true)  (h0 : Heap) (O0 : Old Z Z.heap.size h0)  :
    own_NC l Z (⟨"java/util/Arrays", "checkLength", "(II)V"⟩ : MethodName) jdk_65_method_131_code 2 none ({ frames := 0, cells := 0, slots := 0, locals := 0 } : Room) #[(.int (3 : Int32)), (.int (6 : Int32))] h0 (fun v h => v = none ∧ h = h0) := by
  refine own_nc (plainFor_of_name (by first | (simp [plainName, overriddenIn]; done) | decide +kernel)) ?_
  intro p e s m below meth c s₁ S0 X0 hx hby hml hret hnm hown hZ e0 cc
  have N0 := Fr.nil Z.heap.size
  have c0 : Steps p.tables e below S0 (s₁.setTop (mkF m 0 #[.val (.int (3 : Int32)), .val (.int (6 : Int32))] [])) := cc.trans (XT.entry rfl)
  have c1 : Steps p.tables e below S0 (s₁.setTop (mkF m 37 #[.val (.int (3 : Int32)), .val (.int (6 : Int32))] [])) := c0.trans (by
    refine XS.iloadN X0.here hx rfl (hb hby d19_0) rfl ?_
    refine XS.iloadN X0.here hx rfl (hb hby d19_1) rfl ?_
    refine XS.icmpYes X0.here hx rfl (pc0 := 2) (pc' := 37) rfl (hb hby d19_2) rfl (flt (by decide : ¬ ((6 : Int32) < (3 : Int32)))).2.1 (by decide) (by decide) ?_
    exact Steps.refl _)
  refine ⟨s₁, none, _, _, _, X0, by decide, by decide, (fun _ => rfl), N0, ?_, fun fs hr => ?_⟩
  · rw [e0]
    exact ⟨rfl, rfl⟩
  · exact c1.trans (X0.returnOut hx hret (hb hby d19_37) hr)
set_option maxRecDepth 65536 in
set_option maxHeartbeats 40000000 in
theorem rmMin_7_3 (l : Launch) (Z : State) (a0 : Array Value) (hw : ∀ d ∈ tables_1, d.before a0 Z = true)  (h0 : Heap) (O0 : Old Z Z.heap.size h0)  :
    own_NC l Z (⟨"java/lang/Math", "min", "(II)I"⟩ : MethodName) jdk_29_method_69_code 2 (some .int) ({ frames := 0, cells := 0, slots := 0, locals := 0 } : Room) #[(.int (7 : Int32)), (.int (3 : Int32))] h0 (fun v h => v = some (.int (3 : Int32)) ∧ h = h0) := by
  refine own_nc (Jvm.Free.JP.mathPlain rfl (by decide +kernel)) ?_
  intro p e s m below meth c s₁ S0 X0 hx hby hml hret hnm hown hZ e0 cc
  have N0 := Fr.nil Z.heap.size
  have c0 : Steps p.tables e below S0 (s₁.setTop (mkF m 0 #[.val (.int (7 : Int32)), .val (.int (3 : Int32))] [])) := cc.trans (XT.entry rfl)
  have c1 : Steps p.tables e below S0 (s₁.setTop (mkF m 10 #[.val (.int (7 : Int32)), .val (.int (3 : Int32))] [(.int (3 : Int32))])) := c0.trans (by
    refine XS.iloadN X0.here hx rfl (hb hby d20_0) rfl ?_
    refine XS.iloadN X0.here hx rfl (hb hby d20_1) rfl ?_
    refine XS.icmpYes X0.here hx rfl (pc0 := 2) (pc' := 9) rfl (hb hby d20_2) rfl (tlt (by decide : (3 : Int32) < (7 : Int32))).2.2.1 (by decide) (by decide) ?_
    refine XS.iloadN X0.here hx rfl (hb hby d20_9) rfl ?_
    exact Steps.refl _)
  refine ⟨s₁, (some (.int (3 : Int32))), _, _, _, X0, by decide, by decide, (fun q => by cases q), N0, ?_, fun fs hr => ?_⟩
  · rw [e0]
    exact ⟨rfl, rfl⟩
  · exact c1.trans (retI X0 hx hret (hb hby d20_10) hr)
set_option maxRecDepth 65536 in
set_option maxHeartbeats 40000000 in
theorem rmCORB3 (l : Launch) (Z : State) (a0 : Array Value) (hw : ∀ d ∈ tables_1, d.before a0 Z = true) (t : Addr) (kb : ClassId) (xa xb xc xd : Int32) (h0 : Heap) (O0 : Old Z Z.heap.size h0) (Kt : Arv Z h0 t kb .byte (10 : Int32) [(.int (82 : Int32)), (.int (95 : Int32)), (.int (95 : Int32)), (.int (xa.toInt8.toInt32)), (.int (xb.toInt8.toInt32)), (.int (xc.toInt8.toInt32)), (.int (46 : Int32)), (.int (115 : Int32)), (.int (113 : Int32)), (.int (108 : Int32))] (.int (0 : Int32))) :
    own_NC l Z (⟨"java/util/Arrays", "copyOfRangeByte", "([BII)[B"⟩ : MethodName) jdk_65_method_133_code 5 (some (.array .byte)) ({ frames := 1, cells := 1, slots := 3, locals := 40 } : Room) #[(.ref t), (.int (3 : Int32)), (.int (6 : Int32))] h0 (fun v h => ∃ (u : Addr) (ku : ClassId), v = some (.ref u) ∧ Keep h0 h [] ∧ h0.size ≤ u ∧ Arv Z h u ku .byte (3 : Int32) [(.int (xa.toInt8.toInt32)), (.int (xb.toInt8.toInt32)), (.int (xc.toInt8.toInt32))] (.int (0 : Int32))) := by
  refine own_nc (plainFor_of_name (by first | (simp [plainName, overriddenIn]; done) | decide +kernel)) ?_
  intro p e s m below meth c s₁ S0 X0 hx hby hml hret hnm hown hZ e0 cc
  have N0 := Fr.nil Z.heap.size
  have c0 : Steps p.tables e below S0 (s₁.setTop (mkF m 0 #[.val (.ref t), .val (.int (3 : Int32)), .val (.int (6 : Int32)), .unset, .unset] [])) := cc.trans (XT.entry rfl)
  have c1 : Steps p.tables e below S0 (s₁.setTop (mkF m 2 #[.val (.ref t), .val (.int (3 : Int32)), .val (.int (6 : Int32)), .unset, .unset] [(.int (6 : Int32)), (.int (3 : Int32))])) := c0.trans (by
    refine XS.iloadN X0.here hx rfl (hb hby d18_0) rfl ?_
    refine XS.iloadN X0.here hx rfl (hb hby d18_1) rfl ?_
    exact Steps.refl _)
  obtain ⟨v2, T2, L2, X2, ⟨N2', rfl, e2⟩, c2'⟩ := own_stat X0 hx hml hZ hown (hw _ (List.mem_of_getElem? (i := 91) rfl)) (hw _ (List.mem_of_getElem? (i := 92) rfl)) (hw _ (List.mem_of_getElem? (i := 86) rfl)) (hw _ (List.mem_of_getElem? (i := 93) rfl)) (by decide) (kc := 0) (ks := 0) (h := h0) (W := 0) (argsL := [(.int (3 : Int32)), (.int (6 : Int32))]) (rest := []) (own_pay (W := 0) (rmCL3 l Z a0 hw h0 O0) hZ (hw _ (List.mem_of_getElem? (i := 93) rfl)) (hw _ (List.mem_of_getElem? (i := 86) rfl)) (by decide) (by decide)) c1 rfl rfl (lenOf pd_6 rfl) rfl (by show 2 * 0 + _ ≤ _; exact Nat.le_of_eq rfl) (hb hby d18_2) e0 (by decide) (by decide)
  have N2 := Fr.app N0 N2'
  have c2 : Steps p.tables e below S0 (T2.setTop (mkF m 5 #[.val (.ref t), .val (.int (3 : Int32)), .val (.int (6 : Int32)), .unset, .unset] [])) := c2'
  have c3 : Steps p.tables e below S0 (T2.setTop (mkF m 10 #[.val (.ref t), .val (.int (3 : Int32)), .val (.int (6 : Int32)), .val (.int (3 : Int32)), .unset] [(.int (3 : Int32))])) := c2.trans (by
    refine XS.iloadN X2.here hx rfl (hb hby d18_5) rfl ?_
    refine XS.iloadN X2.here hx rfl (hb hby d18_6) rfl ?_
    refine XS.isub X2.here hx rfl (hb hby d18_7) rfl ?_
    refine XS.istoreN X2.here hx rfl (hb hby d18_8) rfl (l' := #[.val (.ref t), .val (.int (3 : Int32)), .val (.int (6 : Int32)), .val (.int (3 : Int32)), .unset]) rfl ?_
    refine XS.iloadN X2.here hx rfl (hb hby d18_9) rfl ?_
    exact Steps.refl _)
  obtain ⟨T4, h4, k4, X4, e4, E4, A4, st4⟩ := newP X2 hx hZ (hw _ (List.mem_of_getElem? (i := 20) rfl)) e2 (g := (mkF m 10 #[.val (.ref t), .val (.int (3 : Int32)), .val (.int (6 : Int32)), .val (.int (3 : Int32)), .unset] [(.int (3 : Int32))])) rfl (hb hby d18_10) rfl (by decide) (cap := 3) (by decide) (by decide) (by decide) (by decide)
  obtain ⟨b4, g4⟩ : ∃ z, z = h0.size := ⟨_, rfl⟩
  rw [← g4] at A4 st4
  have lo4 : h0.size ≤ b4 := Nat.le_of_eq g4.symm
  have ge4 : Z.heap.size ≤ b4 := Nat.le_trans O0.2.1 lo4
  have V4 := Arv.new A4 (by decide)
  have V4a : Arv Z h4 b4 k4 .byte (3 : Int32) [(.int (0 : Int32)), (.int (0 : Int32)), (.int (0 : Int32))] (.int (0 : Int32)) := V4.pad (pad_rep [] (.int (0 : Int32)) 3)
  have c4 : Steps p.tables e below S0 (T4.setTop (mkF m 12 #[.val (.ref t), .val (.int (3 : Int32)), .val (.int (6 : Int32)), .val (.int (3 : Int32)), .unset] [(.ref b4)])) := c3.trans (st4 _ (Steps.refl _))
  have c5 : Steps p.tables e below S0 (T4.setTop (mkF m 20 #[.val (.ref t), .val (.int (3 : Int32)), .val (.int (6 : Int32)), .val (.int (3 : Int32)), .val (.ref b4)] [(.ref t), (.int (0 : Int32)), (.ref b4), (.int (3 : Int32)), (.ref t)])) := c4.trans (by
    refine XS.astore X4.here hx rfl (hb hby d18_12) rfl rfl (l' := #[.val (.ref t), .val (.int (3 : Int32)), .val (.int (6 : Int32)), .val (.int (3 : Int32)), .val (.ref b4)]) rfl ?_
    refine XS.aloadN X4.here hx rfl (hb hby d18_14) rfl rfl ?_
    refine XS.iloadN X4.here hx rfl (hb hby d18_15) rfl ?_
    refine XS.aload X4.here hx rfl (hb hby d18_16) rfl rfl ?_
    refine XS.iconst X4.here hx rfl (hb hby d18_18) ?_
    refine XS.aloadN X4.here hx rfl (hb hby d18_19) rfl rfl ?_
    exact Steps.refl _)
  obtain ⟨cl6, Ar6, q6, S6, M6, H6, G6⟩ := id (Kt.ext E4)
  have c6 : Steps p.tables e below S0 (T4.setTop (mkF m 21 #[.val (.ref t), .val (.int (3 : Int32)), .val (.int (6 : Int32)), .val (.int (3 : Int32)), .val (.ref b4)] [(.int (10 : Int32)), (.int (0 : Int32)), (.ref b4), (.int (3 : Int32)), (.ref t)])) := c5.trans (by
    refine X4.arraylength hx (by rw [show T4.heap = h4 from e4]; exact Ar6.1) (State.isArrayOf_alike (hZ).alike Ar6.2.1) (g := (mkF m 20 #[.val (.ref t), .val (.int (3 : Int32)), .val (.int (6 : Int32)), .val (.int (3 : Int32)), .val (.ref b4)] [(.ref t), (.int (0 : Int32)), (.ref b4), (.int (3 : Int32)), (.ref t)])) rfl rfl (hb hby d18_20) _ ?_
    rw [len_of S6 M6]
    exact Steps.refl _)
  have c7 : Steps p.tables e below S0 (T4.setTop (mkF m 24 #[.val (.ref t), .val (.int (3 : Int32)), .val (.int (6 : Int32)), .val (.int (3 : Int32)), .val (.ref b4)] [(.int (3 : Int32)), (.int (7 : Int32)), (.int (0 : Int32)), (.ref b4), (.int (3 : Int32)), (.ref t)])) := c6.trans (by
    refine XS.iloadN X4.here hx rfl (hb hby d18_21) rfl ?_
    refine XS.isub X4.here hx rfl (hb hby d18_22) rfl ?_
    refine XS.iloadN X4.here hx rfl (hb hby d18_23) rfl ?_
    exact Steps.refl _)
  obtain ⟨v8, T8, L8, X8, ⟨N8', rfl, e8⟩, c8'⟩ := own_stat X4 hx hml hZ hown (hw _ (List.mem_of_getElem? (i := 94) rfl)) (hw _ (List.mem_of_getElem? (i := 95) rfl)) (hw _ (List.mem_of_getElem? (i := 96) rfl)) (hw _ (List.mem_of_getElem? (i := 97) rfl)) (by decide) (kc := 0) (ks := 0) (h := h4) (W := 4) (argsL := [(.int (7 : Int32)), (.int (3 : Int32))]) (rest := [(.int (0 : Int32)), (.ref b4), (.int (3 : Int32)), (.ref t)]) (own_pay (W := 4) (rmMin_7_3 l Z a0 hw h4 (O0.ext E4)) hZ (hw _ (List.mem_of_getElem? (i := 97) rfl)) (hw _ (List.mem_of_getElem? (i := 96) rfl)) (by decide) (by decide)) c7 rfl rfl (lenOf pd_7 rfl) rfl (by show 2 * 0 + _ ≤ _; exact Nat.le_of_eq rfl) (hb hby d18_24) e4 (by decide) (by decide)
  have N8 := Fr.app N2 N8'
  have c8 : Steps p.tables e below S0 (T8.setTop (mkF m 27 #[.val (.ref t), .val (.int (3 : Int32)), .val (.int (6 : Int32)), .val (.int (3 : Int32)), .val (.ref b4)] [(.int (3 : Int32)), (.int (0 : Int32)), (.ref b4), (.int (3 : Int32)), (.ref t)])) := c8'
  obtain ⟨T9, h9, L9, X9, e9, N9, K9, V9, st9⟩ := cpA X8 hx hZ hown (hw _ (List.mem_of_getElem? (i := 98) rfl)) (hw _ (List.mem_of_getElem? (i := 101) rfl)) (hw _ (List.mem_of_getElem? (i := 99) rfl)) (hw _ (List.mem_of_getElem? (i := 100) rfl)) e8 (us := [(.int (xa.toInt8.toInt32)), (.int (xb.toInt8.toInt32)), (.int (xc.toInt8.toInt32))]) (Kt.ext E4) V4a (Or.inl ⟨rfl, rfl⟩) (by decide) (by decide) (by decide) (by decide) (by decide) rfl (by decide) N8 ge4 (g := (mkF m 27 #[.val (.ref t), .val (.int (3 : Int32)), .val (.int (6 : Int32)), .val (.int (3 : Int32)), .val (.ref b4)] [(.int (3 : Int32)), (.int (0 : Int32)), (.ref b4), (.int (3 : Int32)), (.ref t)])) rfl (by rw [hml]; rfl) rfl (hb hby d18_27) (by decide) (W := 0) (by show 2 * 0 + _ ≤ _; exact Nat.le_of_eq rfl) (by decide)
  have V9a : Arv Z h9 b4 k4 .byte (3 : Int32) [(.int (xa.toInt8.toInt32)), (.int (xb.toInt8.toInt32)), (.int (xc.toInt8.toInt32))] (.int (0 : Int32)) := V9
  have c9 : Steps p.tables e below S0 (T9.setTop (mkF m 30 #[.val (.ref t), .val (.int (3 : Int32)), .val (.int (6 : Int32)), .val (.int (3 : Int32)), .val (.ref b4)] [])) := c8.trans (st9 _ (Steps.refl _))
  have c10 : Steps p.tables e below S0 (T9.setTop (mkF m 32 #[.val (.ref t), .val (.int (3 : Int32)), .val (.int (6 : Int32)), .val (.int (3 : Int32)), .val (.ref b4)] [(.ref b4)])) := c9.trans (by
    refine XS.aload X9.here hx rfl (hb hby d18_30) rfl rfl ?_
    exact Steps.refl _)
  refine ⟨T9, (some (.ref b4)), _, _, _, X9, by decide, by decide, (fun q => by cases q), N9, ?_, fun fs hr => ?_⟩
  · rw [e9]
    exact ⟨b4, k4, rfl, (((Keep.refl h0 []).ext E4).trans K9 (allS (Or.inr (Nat.le_trans (Keep.refl h0 []).1 lo4)) all0)), (Nat.le_trans (Keep.refl h0 []).1 lo4), V9a⟩
  · exact own_retR X9 hx c10 hret rfl rfl (hb hby d18_32) hr
set_option maxRecDepth 65536 in
set_option maxHeartbeats 40000000 in
theorem rmCOR3 (l : Launch) (Z : State) (a0 : Array Value) (hw : ∀ d ∈ tables_1, d.before a0 Z = true) (t : Addr) (kb : ClassId) (xa xb xc xd : Int32) (h0 : Heap) (O0 : Old Z Z.heap.size h0) (Kt : Arv Z h0 t kb .byte (10 : Int32) [(.int (82 : Int32)), (.int (95 : Int32)), (.int (95 : Int32)), (.int (xa.toInt8.toInt32)), (.int (xb.toInt8.toInt32)), (.int (xc.toInt8.toInt32)), (.int (46 : Int32)), (.int (115 : Int32)), (.int (113 : Int32)), (.int (108 : Int32))] (.int (0 : Int32))) :
    own_NC l Z (⟨"java/util/Arrays", "copyOfRange", "([BII)[B"⟩ : MethodName) jdk_65_method_132_code 3 (some (.array .byte)) ({ frames := 2, cells := 1, slots := 3, locals := 60 } : Room) #[(.ref t), (.int (3 : Int32)), (.int (6 : Int32))] h0 (fun v h => ∃ (u : Addr) (ku : ClassId), v = some (.ref u) ∧ Keep h0 h [] ∧ h0.size ≤ u ∧ Arv Z h u ku .byte (3 : Int32) [(.int (xa.toInt8.toInt32)), (.int (xb.toInt8.toInt32)), (.int (xc.toInt8.toInt32))] (.int (0 : Int32))) := by
  refine own_nc (plainFor_of_name (by first | (simp [plainName, overriddenIn]; done) | decide +kernel)) ?_
  intro p e s m below meth c s₁ S0 X0 hx hby hml hret hnm hown hZ e0 cc
  have N0 := Fr.nil Z.heap.size
  have c0 : Steps p.tables e below S0 (s₁.setTop (mkF m 0 #[.val (.ref t), .val (.int (3 : Int32)), .val (.int (6 : Int32))] [])) := cc.trans (XT.entry rfl)
  have c1 : Steps p.tables e below S0 (s₁.setTop (mkF m 13 #[.val (.ref t), .val (.int (3 : Int32)), .val (.int (6 : Int32))] [(.int (6 : Int32)), (.int (3 : Int32)), (.ref t)])) := c0.trans (by
    refine XS.iloadN X0.here hx rfl (hb hby d17_0) rfl ?_
    refine XS.ifYes X0.here hx rfl (pc0 := 1) (pc' := 10) rfl (hb hby d17_1) rfl ((if0 _ _).trans (feq (by decide : ¬ ((3 : Int32) = (0 : Int32)))).2) (by decide) (by decide) ?_
    refine XS.aloadN X0.here hx rfl (hb hby d17_10) rfl rfl ?_
    refine XS.iloadN X0.here hx rfl (hb hby d17_11) rfl ?_
    refine XS.iloadN X0.here hx rfl (hb hby d17_12) rfl ?_
    exact Steps.refl _)
  obtain ⟨v2, T2, L2, X2, ⟨N2', u2, ku2, rfl, K2, lo2, Ku2⟩, c2'⟩ := own_stat X0 hx hml hZ hown (hw _ (List.mem_of_getElem? (i := 88) rfl)) (hw _ (List.mem_of_getElem? (i := 89) rfl)) (hw _ (List.mem_of_getElem? (i := 86) rfl)) (hw _ (List.mem_of_getElem? (i := 90) rfl)) (by decide) (kc := 1) (ks := 3) (h := h0) (W := 0) (argsL := [(.ref t), (.int (3 : Int32)), (.int (6 : Int32))]) (rest := []) (own_pay (W := 0) (rmCORB3 l Z a0 hw t kb xa xb xc xd h0 O0 Kt) hZ (hw _ (List.mem_of_getElem? (i := 90) rfl)) (hw _ (List.mem_of_getElem? (i := 86) rfl)) (by decide) (by decide)) c1 rfl rfl (lenOf pd_8 rfl) rfl (by show 2 * 0 + _ ≤ _; exact Nat.le_of_eq rfl) (hb hby d17_13) e0 (by decide) (by decide)
  have N2 := Fr.app N0 N2'
  have c2 : Steps p.tables e below S0 (T2.setTop (mkF m 16 #[.val (.ref t), .val (.int (3 : Int32)), .val (.int (6 : Int32))] [(.ref u2)])) := c2'
  refine ⟨T2, (some (.ref u2)), _, _, _, X2, by decide, by decide, (fun q => by cases q), N2, ?_, fun fs hr => ?_⟩
  · skip
    exact ⟨u2, ku2, rfl, ((Keep.refl h0 []).trans K2 all0), (Nat.le_trans (Keep.refl h0 []).1 lo2), Ku2⟩
  · exact own_retR X2 hx c2 hret rfl rfl (hb hby d17_16) hr
set_option maxRecDepth 65536 in
set_option maxHeartbeats 40000000 in
theorem rmNS3 (l : Launch) (Z : State) (a0 : Array Value) (hw : ∀ d ∈ tables_1, d.before a0 Z = true) (hEL : EW Z a0 EL) (t : Addr) (kb : ClassId) (xa xb xc xd : Int32) (h0 : Heap) (O0 : Old Z Z.heap.size h0) (Kt : Arv Z h0 t kb .byte (10 : Int32) [(.int (82 : Int32)), (.int (95 : Int32)), (.int (95 : Int32)), (.int (xa.toInt8.toInt32)), (.int (xb.toInt8.toInt32)), (.int (xc.toInt8.toInt32)), (.int (46 : Int32)), (.int (115 : Int32)), (.int (113 : Int32)), (.int (108 : Int32))] (.int (0 : Int32))) :
    own_WC l Z EL (⟨"java/lang/StringLatin1", "newString", "([BII)Ljava/lang/String;"⟩ : MethodName) jdk_43_method_47_code 3 (some (.object "java/lang/String")) ({ frames := 3, cells := 6, slots := 40, locals := 80 } : Room) #[(.ref t), (.int (3 : Int32)), (.int (3 : Int32))] h0 [] (fun v h => (∃ (x t : Addr) (kb : ClassId), v = some (.ref x) ∧ Keep h0 h [] ∧ h0.size ≤ x ∧ Exa Z h x "java/lang/String" ∧ Fld Z h x "java/lang/String" "value" "[B" (.ref t) ∧ Fld Z h x "java/lang/String" "coder" "B" (.int (0 : Int32)) ∧ Arv Z h t kb .byte (Int32.ofNat ([xa, xb, xc] : List Int32).length) ((([xa, xb, xc] : List Int32).map (fun c : Int32 => c.toInt8.toInt32)).map Value.int) (.int (0 : Int32)))) := by
  refine own_wc (plainFor_of_name (by first | (simp [plainName, overriddenIn]; done) | decide +kernel)) hEL ?_
  intro p e s m below meth c s₁ S0 X0 hx hby hml hret hnm hown hZ e0 hS0 CR0 hsf cc
  have N0 := Fr.nil Z.heap.size
  have hk0 : 0 ≤ h0.size := Nat.zero_le _
  have hstr : ∀ d ∈ Bundle.stringAtoms, d.before a0 Z = true := fun d hd => hw d (own_strA d hd)
  have c0 : Steps p.tables e below S0 (s₁.setTop (mkF m 0 #[.val (.ref t), .val (.int (3 : Int32)), .val (.int (3 : Int32))] [])) := cc.trans (XT.entry rfl)
  have c1 : Steps p.tables e below S0 (s₁.setTop (mkF m 7 #[.val (.ref t), .val (.int (3 : Int32)), .val (.int (3 : Int32))] [])) := c0.trans (by
    refine XS.iloadN X0.here hx rfl (hb hby d14_0) rfl ?_
    refine XS.ifYes X0.here hx rfl (pc0 := 1) (pc' := 7) rfl (hb hby d14_1) rfl ((if0 _ _).trans (feq (by decide : ¬ ((3 : Int32) = (0 : Int32)))).2) (by decide) (by decide) ?_
    exact Steps.refl _)
  obtain ⟨T2, h2, X2, e2, E2, A2, D2, -, st2⟩ := newO X0 hx hZ hown (hw _ (List.mem_of_getElem? (i := 83) rfl)) (hw _ (List.mem_of_getElem? (i := 3) rfl)) (hw _ (List.mem_of_getElem? (i := 4) rfl)) e0 (g := (mkF m 7 #[.val (.ref t), .val (.int (3 : Int32)), .val (.int (3 : Int32))] [])) rfl (hb hby d14_7) (by decide) (by decide)
  obtain ⟨b2, g2⟩ : ∃ z, z = h0.size := ⟨_, rfl⟩
  rw [← g2] at A2 D2 st2
  have lo2 : h0.size ≤ b2 := Nat.le_of_eq g2.symm
  have ge2 : Z.heap.size ≤ b2 := Nat.le_trans O0.2.1 lo2
  have R2 := CHr.ext (EL := EL) E2 CR0.1
  have sf2 := Safe.ext E2 CR0.1 (Safe.new lo2)
  have CR2 := CR0.trans R2
  have hk2 := Nat.le_trans hk0 R2.2.1
  have F2_coder : Fld Z h2 b2 "java/lang/String" "coder" "B" (.int (0 : Int32)) := D2 (Or.inr (hw _ (List.mem_of_getElem? (i := 28) rfl))) (ty := .byte) (by decide)
  have F2_value : Fld Z h2 b2 "java/lang/String" "value" "[B" .null := D2 (Or.inr (hw _ (List.mem_of_getElem? (i := 30) rfl))) (ty := (.array .byte)) (by decide)
  have c2 : Steps p.tables e below S0 (T2.setTop (mkF m 10 #[.val (.ref t), .val (.int (3 : Int32)), .val (.int (3 : Int32))] [(.ref b2)])) := c1.trans (st2 _ (Steps.refl _))
  have c3 : Steps p.tables e below S0 (T2.setTop (mkF m 16 #[.val (.ref t), .val (.int (3 : Int32)), .val (.int (3 : Int32))] [(.int (6 : Int32)), (.int (3 : Int32)), (.ref t), (.ref b2), (.ref b2)])) := c2.trans (by
    refine XS.dup X2.here hx rfl (hb hby d14_10) rfl rfl ?_
    refine XS.aloadN X2.here hx rfl (hb hby d14_11) rfl rfl ?_
    refine XS.iloadN X2.here hx rfl (hb hby d14_12) rfl ?_
    refine XS.iloadN X2.here hx rfl (hb hby d14_13) rfl ?_
    refine XS.iloadN X2.here hx rfl (hb hby d14_14) rfl ?_
    refine XS.iadd X2.here hx rfl (hb hby d14_15) rfl ?_
    exact Steps.refl _)
  obtain ⟨v4, T4, L4, X4, ⟨N4', u4, ku4, rfl, K4, lo4, Ku4⟩, c4'⟩ := own_stat X2 hx hml hZ hown (hw _ (List.mem_of_getElem? (i := 84) rfl)) (hw _ (List.mem_of_getElem? (i := 85) rfl)) (hw _ (List.mem_of_getElem? (i := 86) rfl)) (hw _ (List.mem_of_getElem? (i := 87) rfl)) (by decide) (kc := 1) (ks := 3) (h := h2) (W := 2) (argsL := [(.ref t), (.int (3 : Int32)), (.int (6 : Int32))]) (rest := [(.ref b2), (.ref b2)]) (own_pay (W := 2) (rmCOR3 l Z a0 hw t kb xa xb xc xd h2 (O0.ext E2) (Kt.ext E2)) hZ (hw _ (List.mem_of_getElem? (i := 87) rfl)) (hw _ (List.mem_of_getElem? (i := 86) rfl)) (by decide) (by decide)) c3 rfl rfl (lenOf pd_8 rfl) rfl (by show 2 * 0 + _ ≤ _; exact Nat.le_of_eq rfl) (hb hby d14_16) e2 (by decide) (by decide)
  have N4 := Fr.app N0 N4'
  have R4 := CHr.keep K4 sf0 CR2.1
  have CR4 := CR2.trans R4
  have hk4 := Nat.le_trans hk2 R4.2.1
  have c4 : Steps p.tables e below S0 (T4.setTop (mkF m 19 #[.val (.ref t), .val (.int (3 : Int32)), .val (.int (3 : Int32))] [(.ref u4), (.ref b2), (.ref b2)])) := c4'
  have c5 : Steps p.tables e below S0 (T4.setTop (mkF m 20 #[.val (.ref t), .val (.int (3 : Int32)), .val (.int (3 : Int32))] [(.int (0 : Int32)), (.ref u4), (.ref b2), (.ref b2)])) := c4.trans (by
    refine XS.iconst X4.here hx rfl (hb hby d14_19) ?_
    exact Steps.refl _)
  obtain ⟨v6, T6, L6, X6, ⟨N6', rfl, K6, E6, V6, Cd6⟩, c6'⟩ := own_spec X4 hx hml hZ hown rfl (hw _ (List.mem_of_getElem? (i := 102) rfl)) (hw _ (List.mem_of_getElem? (i := 103) rfl)) (hw _ (List.mem_of_getElem? (i := 104) rfl)) (by decide) (kc := 0) (ks := 0) (h := T4.heap) (W := 1) (b := b2) (argsL := [(.ref u4), (.int (0 : Int32))]) (rest := [(.ref b2)]) (own_pay (W := 1) (rmIB l Z a0 hw b2 u4 _ _ T4.heap ((O0.ext E2).keep K4 all0) (A2.keep K4) (F2_value.keep K4 nin0) (F2_coder.keep K4 nin0) ge2) hZ (hw _ (List.mem_of_getElem? (i := 104) rfl)) (hw _ (List.mem_of_getElem? (i := 4) rfl)) (by decide) (by decide)) c5 rfl rfl (lenOf pd_9 rfl) rfl (by show 2 * 0 + _ ≤ _; exact Nat.le_of_eq rfl) (hb hby d14_20) rfl (by decide) (by decide)
  have N6 := Fr.app N4 N6'
  have R6 := CHr.keep K6 (sfS (R4.safe A2.lt sf2) sf0) CR4.1
  have CR6 := CR4.trans R6
  have hk6 := Nat.le_trans hk4 R6.2.1
  have c6 : Steps p.tables e below S0 (T6.setTop (mkF m 23 #[.val (.ref t), .val (.int (3 : Int32)), .val (.int (3 : Int32))] [(.ref b2)])) := c6'
  refine ⟨T6, s.vm, _, (some (.ref b2)), _, _, _, X6, by decide, by decide, (fun q => by cases q), N6, hS0, hk6, hZ, CR6, ?_, fun fs hr => ?_⟩
  · skip
    exact ⟨b2, u4, ku4, rfl, ((((Keep.refl h0 []).ext E2).trans K4 all0).trans K6 (allS (Or.inr (Nat.le_trans (Keep.refl h0 []).1 lo2)) all0)), (Nat.le_trans (Keep.refl h0 []).1 lo2), E6, V6, Cd6, (Ku4.keep K6 (ninS (Ne.symm (Nat.ne_of_lt (Nat.lt_of_lt_of_le A2.lt lo4))) nin0))⟩
  · exact own_retR X6 hx c6 hret rfl rfl (hb hby d14_23) hr
set_option maxRecDepth 65536 in
set_option maxHeartbeats 40000000 in
theorem rmSub3 (l : Launch) (Z : State) (a0 : Array Value) (hw : ∀ d ∈ tables_1, d.before a0 Z = true) (hEL : EW Z a0 EL) (x t : Addr) (kb : ClassId) (xa xb xc xd : Int32) (z : Int32) (fm : Value) (h0 : Heap) (O0 : Old Z Z.heap.size h0) (E : Exa Z h0 x "java/lang/String") (V : Fld Z h0 x "java/lang/String" "value" "[B" (.ref t)) (Cd : Fld Z h0 x "java/lang/String" "coder" "B" (.int (0 : Int32))) (K : Arv Z h0 t kb .byte (Int32.ofNat ([(82 : Int32), (95 : Int32), (95 : Int32), xa, xb, xc, (46 : Int32), (115 : Int32), (113 : Int32), (108 : Int32)] : List Int32).length) ((([(82 : Int32), (95 : Int32), (95 : Int32), xa, xb, xc, (46 : Int32), (115 : Int32), (113 : Int32), (108 : Int32)] : List Int32).map (fun c : Int32 => c.toInt8.toInt32)).map Value.int) (.int (0 : Int32))) (hxa : own_B xa) (hxb : own_B xb) (hxc : own_B xc) (hxd : own_B xd) (SC : Sta Z Z.heap "java/lang/String" "COMPACT_STRINGS" "Z" (.int z)) (hz : ¬ z = 0) (SF : Sta Z Z.heap "jdk/internal/util/Preconditions" "SIOOBE_FORMATTER" "Ljava/util/function/BiFunction;" fm) (hfm : fm.isRef = true) :
    own_WC l Z EL (⟨"java/lang/String", "substring", "(II)Ljava/lang/String;"⟩ : MethodName) jdk_42_method_92_code 5 (some (.object "java/lang/String")) ({ frames := 5, cells := 6, slots := 40, locals := 110 } : Room) #[(.ref x), (.int (3 : Int32)), (.int (6 : Int32))] h0 [] (fun v h => (∃ (x t : Addr) (kb : ClassId), v = some (.ref x) ∧ Keep h0 h [] ∧ Exa Z h x "java/lang/String" ∧ Fld Z h x "java/lang/String" "value" "[B" (.ref t) ∧ Fld Z h x "java/lang/String" "coder" "B" (.int (0 : Int32)) ∧ Arv Z h t kb .byte (Int32.ofNat ([xa, xb, xc] : List Int32).length) ((([xa, xb, xc] : List Int32).map (fun c : Int32 => c.toInt8.toInt32)).map Value.int) (.int (0 : Int32)))) := by
  refine own_wc (plainFor_of_name (by first | (simp [plainName, overriddenIn]; done) | decide +kernel)) hEL ?_
  intro p e s m below meth c s₁ S0 X0 hx hby hml hret hnm hown hZ e0 hS0 CR0 hsf cc
  have N0 := Fr.nil Z.heap.size
  have hk0 : 0 ≤ h0.size := Nat.zero_le _
  have hstr : ∀ d ∈ Bundle.stringAtoms, d.before a0 Z = true := fun d hd => hw d (own_strA d hd)
  have c0 : Steps p.tables e below S0 (s₁.setTop (mkF m 0 #[.val (.ref x), .val (.int (3 : Int32)), .val (.int (6 : Int32)), .unset, .unset] [])) := cc.trans (XT.entry rfl)
  have c1 : Steps p.tables e below S0 (s₁.setTop (mkF m 1 #[.val (.ref x), .val (.int (3 : Int32)), .val (.int (6 : Int32)), .unset, .unset] [(.ref x)])) := c0.trans (by
    refine XS.aloadN X0.here hx rfl (hb hby d10_0) rfl rfl ?_
    exact Steps.refl _)
  obtain ⟨v2, T2, L2, X2, ⟨rfl, rfl, e2⟩, c2'⟩ := own_virt X0 hx hml hZ hown (hw _ (List.mem_of_getElem? (i := 55) rfl)) (hw _ (List.mem_of_getElem? (i := 40) rfl)) (hw _ (List.mem_of_getElem? (i := 42) rfl)) (hw _ (List.mem_of_getElem? (i := 41) rfl)) (hw _ (List.mem_of_getElem? (i := 42) rfl)) (by decide) (Q := fun v h' L => v = some (.int (Int32.ofNat ([(82 : Int32), (95 : Int32), (95 : Int32), xa, xb, xc, (46 : Int32), (115 : Int32), (113 : Int32), (108 : Int32)] : List Int32).length)) ∧ L = [] ∧ h' = h0) (kc := 0) (ks := 0) (h := h0) (W := 0) (b := x) (argsL := []) (rest := []) (StrChars.Road.lenW (s := (s.setVm s.vm)) (R := ({ frames := 5, cells := 6, slots := 40, locals := 110 } : Room)) (W := 0) hZ (own_wl hw) (kI := 4) (hw _ (List.mem_of_getElem? (i := 3) rfl)) (cs := [(82 : Int32), (95 : Int32), (95 : Int32), xa, xb, xc, (46 : Int32), (115 : Int32), (113 : Int32), (108 : Int32)]) E V Cd K (StrChars.Road.codOf (n := ([(82 : Int32), (95 : Int32), (95 : Int32), xa, xb, xc, (46 : Int32), (115 : Int32), (113 : Int32), (108 : Int32)] : List Int32).length) rfl (fun c hc => ((own_cons (own_Bl 82 (by decide)) (own_cons (own_Bl 95 (by decide)) (own_cons (own_Bl 95 (by decide)) (own_cons hxa (own_cons hxb (own_cons hxc (own_cons (own_Bl 46 (by decide)) (own_cons (own_Bl 115 (by decide)) (own_cons (own_Bl 113 (by decide)) (own_cons (own_Bl 108 (by decide)) own_nil)))))))))) c hc).rng.2)) (fun c hc => ((own_cons (own_Bl 82 (by decide)) (own_cons (own_Bl 95 (by decide)) (own_cons (own_Bl 95 (by decide)) (own_cons hxa (own_cons hxb (own_cons hxc (own_cons (own_Bl 46 (by decide)) (own_cons (own_Bl 115 (by decide)) (own_cons (own_Bl 113 (by decide)) (own_cons (own_Bl 108 (by decide)) own_nil)))))))))) c hc).rng2) (SC.ext O0.2) hz (Nat.le_of_ble_eq_true rfl) (by decide) (by decide)) E c1 rfl rfl (lenOf pd_1 rfl) rfl (by show 2 * 0 + _ ≤ _; exact Nat.le_of_eq rfl) (hb hby d10_1) e0 (by decide) (by decide)
  have N2 := Fr.app N0 (Fr.nil _)
  have c2 : Steps p.tables e below S0 (T2.setTop (mkF m 4 #[.val (.ref x), .val (.int (3 : Int32)), .val (.int (6 : Int32)), .unset, .unset] [(.int (10 : Int32))])) := c2'
  have c3 : Steps p.tables e below S0 (T2.setTop (mkF m 8 #[.val (.ref x), .val (.int (3 : Int32)), .val (.int (6 : Int32)), .val (.int (10 : Int32)), .unset] [(.int (10 : Int32)), (.int (6 : Int32)), (.int (3 : Int32))])) := c2.trans (by
    refine XS.istoreN X2.here hx rfl (hb hby d10_4) rfl (l' := #[.val (.ref x), .val (.int (3 : Int32)), .val (.int (6 : Int32)), .val (.int (10 : Int32)), .unset]) rfl ?_
    refine XS.iloadN X2.here hx rfl (hb hby d10_5) rfl ?_
    refine XS.iloadN X2.here hx rfl (hb hby d10_6) rfl ?_
    refine XS.iloadN X2.here hx rfl (hb hby d10_7) rfl ?_
    exact Steps.refl _)
  obtain ⟨v4, T4, L4, X4, ⟨N4', rfl, e4⟩, c4'⟩ := own_stat X2 hx hml hZ hown (hw _ (List.mem_of_getElem? (i := 56) rfl)) (hw _ (List.mem_of_getElem? (i := 57) rfl)) (hw _ (List.mem_of_getElem? (i := 4) rfl)) (hw _ (List.mem_of_getElem? (i := 58) rfl)) (by decide) (kc := 0) (ks := 0) (h := h0) (W := 0) (argsL := [(.int (3 : Int32)), (.int (6 : Int32)), (.int (10 : Int32))]) (rest := []) (own_pay (W := 0) (rmCBE3 l Z a0 hw z fm h0 O0 SC hz SF hfm) hZ (hw _ (List.mem_of_getElem? (i := 58) rfl)) (hw _ (List.mem_of_getElem? (i := 4) rfl)) (by decide) (by decide)) c3 rfl rfl (lenOf pd_2 rfl) rfl (by show 2 * 0 + _ ≤ _; exact Nat.le_of_eq rfl) (hb hby d10_8) e2 (by decide) (by decide)
  have N4 := Fr.app N2 N4'
  have c4 : Steps p.tables e below S0 (T4.setTop (mkF m 11 #[.val (.ref x), .val (.int (3 : Int32)), .val (.int (6 : Int32)), .val (.int (10 : Int32)), .unset] [])) := c4'
  have c5 : Steps p.tables e below S0 (T4.setTop (mkF m 28 #[.val (.ref x), .val (.int (3 : Int32)), .val (.int (6 : Int32)), .val (.int (10 : Int32)), .val (.int (3 : Int32))] [(.ref x)])) := c4.trans (by
    refine XS.iloadN X4.here hx rfl (hb hby d10_11) rfl ?_
    refine XS.ifYes X4.here hx rfl (pc0 := 12) (pc' := 22) rfl (hb hby d10_12) rfl ((if0 _ _).trans (feq (by decide : ¬ ((3 : Int32) = (0 : Int32)))).2) (by decide) (by decide) ?_
    refine XS.iloadN X4.here hx rfl (hb hby d10_22) rfl ?_
    refine XS.iloadN X4.here hx rfl (hb hby d10_23) rfl ?_
    refine XS.isub X4.here hx rfl (hb hby d10_24) rfl ?_
    refine XS.istore X4.here hx rfl (hb hby d10_25) rfl (l' := #[.val (.ref x), .val (.int (3 : Int32)), .val (.int (6 : Int32)), .val (.int (10 : Int32)), .val (.int (3 : Int32))]) rfl ?_
    refine XS.aloadN X4.here hx rfl (hb hby d10_27) rfl rfl ?_
    exact Steps.refl _)
  obtain ⟨v6, T6, L6, X6, ⟨N6', rfl, e6⟩, c6'⟩ := own_virt X4 hx hml hZ hown (hw _ (List.mem_of_getElem? (i := 64) rfl)) (hw _ (List.mem_of_getElem? (i := 65) rfl)) (hw _ (List.mem_of_getElem? (i := 67) rfl)) (hw _ (List.mem_of_getElem? (i := 66) rfl)) (hw _ (List.mem_of_getElem? (i := 67) rfl)) (by decide) (kc := 0) (ks := 0) (h := h0) (W := 0) (b := x) (argsL := []) (rest := []) (own_pay (W := 0) (rmIsL l Z a0 hw x z fm h0 O0 Cd SC hz SF hfm) hZ (hw _ (List.mem_of_getElem? (i := 68) rfl)) (hw _ (List.mem_of_getElem? (i := 4) rfl)) (by decide) (by decide)) E c5 rfl rfl (lenOf pd_3 rfl) rfl (by show 2 * 0 + _ ≤ _; exact Nat.le_of_eq rfl) (hb hby d10_28) e4 (by decide) (by decide)
  have N6 := Fr.app N4 N6'
  have c6 : Steps p.tables e below S0 (T6.setTop (mkF m 31 #[.val (.ref x), .val (.int (3 : Int32)), .val (.int (6 : Int32)), .val (.int (10 : Int32)), .val (.int (3 : Int32))] [(.int (1 : Int32))])) := c6'
  have c7 : Steps p.tables e below S0 (T6.setTop (mkF m 35 #[.val (.ref x), .val (.int (3 : Int32)), .val (.int (6 : Int32)), .val (.int (10 : Int32)), .val (.int (3 : Int32))] [(.ref x)])) := c6.trans (by
    refine XS.ifNo X6.here hx rfl (hb hby d10_31) rfl ((if0 _ _).trans (feq (by decide : ¬ ((1 : Int32) = (0 : Int32)))).1) ?_
    refine XS.aloadN X6.here hx rfl (hb hby d10_34) rfl rfl ?_
    exact Steps.refl _)
  obtain ⟨T8, X8, e8, st8⟩ := getF X6 hx hZ hown (host := "") (Or.inl (hw _ (List.mem_of_getElem? (i := 29) rfl))) Via.refl e6 V (g := (mkF m 35 #[.val (.ref x), .val (.int (3 : Int32)), .val (.int (6 : Int32)), .val (.int (10 : Int32)), .val (.int (3 : Int32))] [(.ref x)])) rfl rfl (hb hby d10_35)
  have c8 : Steps p.tables e below S0 (T8.setTop (mkF m 38 #[.val (.ref x), .val (.int (3 : Int32)), .val (.int (6 : Int32)), .val (.int (10 : Int32)), .val (.int (3 : Int32))] [(.ref t)])) := c7.trans (st8 _ (Steps.refl _))
  have c9 : Steps p.tables e below S0 (T8.setTop (mkF m 41 #[.val (.ref x), .val (.int (3 : Int32)), .val (.int (6 : Int32)), .val (.int (10 : Int32)), .val (.int (3 : Int32))] [(.int (3 : Int32)), (.int (3 : Int32)), (.ref t)])) := c8.trans (by
    refine XS.iloadN X8.here hx rfl (hb hby d10_38) rfl ?_
    refine XS.iload X8.here hx rfl (hb hby d10_39) rfl ?_
    exact Steps.refl _)
  obtain ⟨v10, T10, L10, X10, hS10, hZ10, hown10, R10, ⟨N10', x10, t10, kb10, rfl, K10, lo10, E10, V10, Cd10, Kb10⟩, c10'⟩ := own_wstat X8 hx hml hZ hown hS0 hk0 (hw _ (List.mem_of_getElem? (i := 69) rfl)) (hw _ (List.mem_of_getElem? (i := 70) rfl)) (hw _ (List.mem_of_getElem? (i := 71) rfl)) (hw _ (List.mem_of_getElem? (i := 72) rfl)) (by decide) (kc := 6) (ks := 40) (h := h0) (W := 0) (argsL := [(.ref t), (.int (3 : Int32)), (.int (3 : Int32))]) (rest := []) (own_wpay (W := 0) (rmNS3 l Z a0 hw hEL t kb xa xb xc xd h0 O0 K) hZ (hw _ (List.mem_of_getElem? (i := 72) rfl)) (hw _ (List.mem_of_getElem? (i := 71) rfl)) (by decide) (by decide) hEL CR0.1 all0) c9 rfl rfl (lenOf pd_4 rfl) rfl (by show 2 * 0 + _ ≤ _; exact Nat.le_of_eq rfl) (hb hby d10_41) e8 (by decide) (by decide)
  have N10 := Fr.app N6 N10'
  have CR10 := CR0.trans R10
  have c10 : Steps p.tables e below S0 (T10.setTop (mkF m 44 #[.val (.ref x), .val (.int (3 : Int32)), .val (.int (6 : Int32)), .val (.int (10 : Int32)), .val (.int (3 : Int32))] [(.ref x10)])) := c10'
  have c11 : Steps p.tables e below S0 (T10.setTop (mkF m 57 #[.val (.ref x), .val (.int (3 : Int32)), .val (.int (6 : Int32)), .val (.int (10 : Int32)), .val (.int (3 : Int32))] [(.ref x10)])) := c10.trans (by
    refine XS.goto X10.here hx rfl (pc0 := 44) (pc' := 57) rfl (hb hby d10_44) (by decide) (by decide) ?_
    exact Steps.refl _)
  refine ⟨T10, T10.vm, _, (some (.ref x10)), _, _, _, X10, by decide, by decide, (fun q => by cases q), N10, hS10, (Nat.le_refl _), hZ10, CR10, ?_, fun fs hr => ?_⟩
  · skip
    exact ⟨x10, t10, kb10, rfl, ((Keep.refl h0 []).trans K10 all0), E10, V10, Cd10, Kb10⟩
  · exact own_retR X10 hx c11 hret rfl rfl (hb hby d10_57) hr
set_option maxRecDepth 65536 in
set_option maxHeartbeats 40000000 in
theorem rmRN3 (l : Launch) (Z : State) (a0 : Array Value) (hw : ∀ d ∈ tables_1, d.before a0 Z = true) (hEL : EW Z a0 EL) (x t : Addr) (kb : ClassId) (xa xb xc xd : Int32) (z : Int32) (fm : Value) (h0 : Heap) (O0 : Old Z Z.heap.size h0) (E : Exa Z h0 x "java/lang/String") (V : Fld Z h0 x "java/lang/String" "value" "[B" (.ref t)) (Cd : Fld Z h0 x "java/lang/String" "coder" "B" (.int (0 : Int32))) (K : Arv Z h0 t kb .byte (Int32.ofNat ([(82 : Int32), (95 : Int32), (95 : Int32), xa, xb, xc, (46 : Int32), (115 : Int32), (113 : Int32), (108 : Int32)] : List Int32).length) ((([(82 : Int32), (95 : Int32), (95 : Int32), xa, xb, xc, (46 : Int32), (115 : Int32), (113 : Int32), (108 : Int32)] : List Int32).map (fun c : Int32 => c.toInt8.toInt32)).map Value.int) (.int (0 : Int32))) (hxa : own_B xa) (hxb : own_B xb) (hxc : own_B xc) (hxd : own_B xd) (SC : Sta Z Z.heap "java/lang/String" "COMPACT_STRINGS" "Z" (.int z)) (hz : ¬ z = 0) (SF : Sta Z Z.heap "jdk/internal/util/Preconditions" "SIOOBE_FORMATTER" "Ljava/util/function/BiFunction;" fm) (hfm : fm.isRef = true) :
    own_WC l Z EL (⟨"com/example/cambio/cambio/io/MigrationFolder", "repeatableName", "(Ljava/lang/String;)Ljava/lang/String;"⟩ : MethodName) prog_23_method_6_code 1 (some (.object "java/lang/String")) ({ frames := 6, cells := 10, slots := 100, locals := 150 } : Room) #[(.ref x)] h0 [] (fun v h => (∃ (x t : Addr) (kb : ClassId), v = some (.ref x) ∧ Keep h0 h [] ∧ Exa Z h x "java/lang/String" ∧ Fld Z h x "java/lang/String" "value" "[B" (.ref t) ∧ Fld Z h x "java/lang/String" "coder" "B" (.int (0 : Int32)) ∧ Arv Z h t kb .byte (Int32.ofNat ([xa, xb, xc] : List Int32).length) ((([xa, xb, xc] : List Int32).map (fun c : Int32 => c.toInt8.toInt32)).map Value.int) (.int (0 : Int32)))) := by
  refine own_wc (plainFor_of_name (by first | (simp [plainName, overriddenIn]; done) | decide +kernel)) hEL ?_
  intro p e s m below meth c s₁ S0 X0 hx hby hml hret hnm hown hZ e0 hS0 CR0 hsf cc
  have N0 := Fr.nil Z.heap.size
  have hk0 : 0 ≤ h0.size := Nat.zero_le _
  have hstr : ∀ d ∈ Bundle.stringAtoms, d.before a0 Z = true := fun d hd => hw d (own_strA d hd)
  have c0 : Steps p.tables e below S0 (s₁.setTop (mkF m 0 #[.val (.ref x)] [])) := cc.trans (XT.entry rfl)
  have c1 : Steps p.tables e below S0 (s₁.setTop (mkF m 1 #[.val (.ref x)] [(.ref x)])) := c0.trans (by
    refine XS.aloadN X0.here hx rfl (hb hby d7_0) rfl rfl ?_
    exact Steps.refl _)
  obtain ⟨la_2, T2, h2, kn2, lb_2, lk2, X2, e2, E2, hS2, hk2, hZ2, hown2, Ea2, Ca2, Va2, Kb2, la2, lb2, R2, Lt2, ne2, st2⟩ := ldcCH X0 hx hZ hown (hw _ (List.mem_of_getElem? (i := 38) rfl)) hstr e0 hS0 hk0 hEL (by decide) CR0.1 (vs := [(.int (82 : Int32)), (.int (95 : Int32)), (.int (95 : Int32))]) (z := (3 : Int32)) ⟨by decide, by decide⟩ (by decide) (by decide) (g := (mkF m 1 #[.val (.ref x)] [(.ref x)])) rfl (hb hby d7_1) (n := 12) (by decide) (by decide) (by decide) (by decide)
  have CR2 := CR0.trans R2
  have c2 : Steps p.tables e below S0 (T2.setTop (mkF m 3 #[.val (.ref x)] [(.ref la_2), (.ref x)])) := c1.trans (st2 _ (Steps.refl _))
  obtain ⟨v3, T3, L3, X3, ⟨rfl, rfl, e3⟩, c3'⟩ := own_virt X2 hx hml hZ2 hown2 (hw _ (List.mem_of_getElem? (i := 39) rfl)) (hw _ (List.mem_of_getElem? (i := 40) rfl)) (hw _ (List.mem_of_getElem? (i := 42) rfl)) (hw _ (List.mem_of_getElem? (i := 41) rfl)) (hw _ (List.mem_of_getElem? (i := 42) rfl)) (by decide) (Q := fun v h' L => v = some (.int (Int32.ofNat ([(82 : Int32), (95 : Int32), (95 : Int32)] : List Int32).length)) ∧ L = [] ∧ h' = h2) (kc := 0) (ks := 0) (h := h2) (W := 1) (b := la_2) (argsL := []) (rest := [(.ref x)]) (StrChars.Road.lenW (s := (s.setVm T2.vm)) (R := ({ frames := 6, cells := 10, slots := 100, locals := 150 } : Room)) (W := 1) hZ2 (own_wl hw) (kI := 4) (hw _ (List.mem_of_getElem? (i := 3) rfl)) (cs := [(82 : Int32), (95 : Int32), (95 : Int32)]) Ea2 Va2 Ca2 Kb2 (StrChars.Road.codOf (n := ([(82 : Int32), (95 : Int32), (95 : Int32)] : List Int32).length) rfl (fun c hc => ((own_cons (own_Bl 82 (by decide)) (own_cons (own_Bl 95 (by decide)) (own_cons (own_Bl 95 (by decide)) own_nil))) c hc).rng.2)) (fun c hc => ((own_cons (own_Bl 82 (by decide)) (own_cons (own_Bl 95 (by decide)) (own_cons (own_Bl 95 (by decide)) own_nil))) c hc).rng2) (SC.ext (O0.ext E2).2) hz (Nat.le_of_ble_eq_true rfl) (by decide) (by decide)) Ea2 c2 rfl rfl (lenOf pd_1 rfl) rfl (by show 2 * 0 + _ ≤ _; exact Nat.le_of_eq rfl) (hb hby d7_3) e2 (by decide) (by decide)
  have N3 := Fr.app N0 (Fr.nil _)
  have c3 : Steps p.tables e below S0 (T3.setTop (mkF m 6 #[.val (.ref x)] [(.int (3 : Int32)), (.ref x)])) := c3'
  have c4 : Steps p.tables e below S0 (T3.setTop (mkF m 7 #[.val (.ref x)] [(.ref x), (.int (3 : Int32)), (.ref x)])) := c3.trans (by
    refine XS.aloadN X3.here hx rfl (hb hby d7_6) rfl rfl ?_
    exact Steps.refl _)
  obtain ⟨v5, T5, L5, X5, ⟨rfl, rfl, e5⟩, c5'⟩ := own_virt X3 hx hml hZ2 hown2 (hw _ (List.mem_of_getElem? (i := 39) rfl)) (hw _ (List.mem_of_getElem? (i := 40) rfl)) (hw _ (List.mem_of_getElem? (i := 42) rfl)) (hw _ (List.mem_of_getElem? (i := 41) rfl)) (hw _ (List.mem_of_getElem? (i := 42) rfl)) (by decide) (Q := fun v h' L => v = some (.int (Int32.ofNat ([(82 : Int32), (95 : Int32), (95 : Int32), xa, xb, xc, (46 : Int32), (115 : Int32), (113 : Int32), (108 : Int32)] : List Int32).length)) ∧ L = [] ∧ h' = h2) (kc := 0) (ks := 0) (h := h2) (W := 2) (b := x) (argsL := []) (rest := [(.int (3 : Int32)), (.ref x)]) (StrChars.Road.lenW (s := (s.setVm T2.vm)) (R := ({ frames := 6, cells := 10, slots := 100, locals := 150 } : Room)) (W := 2) hZ2 (own_wl hw) (kI := 4) (hw _ (List.mem_of_getElem? (i := 3) rfl)) (cs := [(82 : Int32), (95 : Int32), (95 : Int32), xa, xb, xc, (46 : Int32), (115 : Int32), (113 : Int32), (108 : Int32)]) (E.ext E2) (V.ext E2) (Cd.ext E2) (K.ext E2) (StrChars.Road.codOf (n := ([(82 : Int32), (95 : Int32), (95 : Int32), xa, xb, xc, (46 : Int32), (115 : Int32), (113 : Int32), (108 : Int32)] : List Int32).length) rfl (fun c hc => ((own_cons (own_Bl 82 (by decide)) (own_cons (own_Bl 95 (by decide)) (own_cons (own_Bl 95 (by decide)) (own_cons hxa (own_cons hxb (own_cons hxc (own_cons (own_Bl 46 (by decide)) (own_cons (own_Bl 115 (by decide)) (own_cons (own_Bl 113 (by decide)) (own_cons (own_Bl 108 (by decide)) own_nil)))))))))) c hc).rng.2)) (fun c hc => ((own_cons (own_Bl 82 (by decide)) (own_cons (own_Bl 95 (by decide)) (own_cons (own_Bl 95 (by decide)) (own_cons hxa (own_cons hxb (own_cons hxc (own_cons (own_Bl 46 (by decide)) (own_cons (own_Bl 115 (by decide)) (own_cons (own_Bl 113 (by decide)) (own_cons (own_Bl 108 (by decide)) own_nil)))))))))) c hc).rng2) (SC.ext (O0.ext E2).2) hz (Nat.le_of_ble_eq_true rfl) (by decide) (by decide)) (E.ext E2) c4 rfl rfl (lenOf pd_1 rfl) rfl (by show 2 * 0 + _ ≤ _; exact Nat.le_of_eq rfl) (hb hby d7_7) e3 (by decide) (by decide)
  have N5 := Fr.app N3 (Fr.nil _)
  have c5 : Steps p.tables e below S0 (T5.setTop (mkF m 10 #[.val (.ref x)] [(.int (10 : Int32)), (.int (3 : Int32)), (.ref x)])) := c5'
  obtain ⟨la_6, T6, h6, kn6, lb_6, lk6, X6, e6, E6, hS6, hk6, hZ6, hown6, Ea6, Ca6, Va6, Kb6, la6, lb6, R6, Lt6, ne6, st6⟩ := ldcCH X5 hx hZ2 hown2 (hw _ (List.mem_of_getElem? (i := 49) rfl)) hstr e5 hS2 hk2 hEL (by decide) CR2.1 (vs := [(.int (46 : Int32)), (.int (115 : Int32)), (.int (113 : Int32)), (.int (108 : Int32))]) (z := (4 : Int32)) ⟨by decide, by decide⟩ (by decide) (by decide) (g := (mkF m 10 #[.val (.ref x)] [(.int (10 : Int32)), (.int (3 : Int32)), (.ref x)])) rfl (hb hby d7_10) (n := 16) (by decide) (by decide) (by decide) (by decide)
  have CR6 := CR2.trans R6
  have c6 : Steps p.tables e below S0 (T6.setTop (mkF m 12 #[.val (.ref x)] [(.ref la_6), (.int (10 : Int32)), (.int (3 : Int32)), (.ref x)])) := c5.trans (st6 _ (Steps.refl _))
  obtain ⟨v7, T7, L7, X7, ⟨rfl, rfl, e7⟩, c7'⟩ := own_virt X6 hx hml hZ6 hown6 (hw _ (List.mem_of_getElem? (i := 39) rfl)) (hw _ (List.mem_of_getElem? (i := 40) rfl)) (hw _ (List.mem_of_getElem? (i := 42) rfl)) (hw _ (List.mem_of_getElem? (i := 41) rfl)) (hw _ (List.mem_of_getElem? (i := 42) rfl)) (by decide) (Q := fun v h' L => v = some (.int (Int32.ofNat ([(46 : Int32), (115 : Int32), (113 : Int32), (108 : Int32)] : List Int32).length)) ∧ L = [] ∧ h' = h6) (kc := 0) (ks := 0) (h := h6) (W := 3) (b := la_6) (argsL := []) (rest := [(.int (10 : Int32)), (.int (3 : Int32)), (.ref x)]) (StrChars.Road.lenW (s := (s.setVm T6.vm)) (R := ({ frames := 6, cells := 10, slots := 100, locals := 150 } : Room)) (W := 3) hZ6 (own_wl hw) (kI := 4) (hw _ (List.mem_of_getElem? (i := 3) rfl)) (cs := [(46 : Int32), (115 : Int32), (113 : Int32), (108 : Int32)]) Ea6 Va6 Ca6 Kb6 (StrChars.Road.codOf (n := ([(46 : Int32), (115 : Int32), (113 : Int32), (108 : Int32)] : List Int32).length) rfl (fun c hc => ((own_cons (own_Bl 46 (by decide)) (own_cons (own_Bl 115 (by decide)) (own_cons (own_Bl 113 (by decide)) (own_cons (own_Bl 108 (by decide)) own_nil)))) c hc).rng.2)) (fun c hc => ((own_cons (own_Bl 46 (by decide)) (own_cons (own_Bl 115 (by decide)) (own_cons (own_Bl 113 (by decide)) (own_cons (own_Bl 108 (by decide)) own_nil)))) c hc).rng2) (SC.ext ((O0.ext E2).ext E6).2) hz (Nat.le_of_ble_eq_true rfl) (by decide) (by decide)) Ea6 c6 rfl rfl (lenOf pd_1 rfl) rfl (by show 2 * 0 + _ ≤ _; exact Nat.le_of_eq rfl) (hb hby d7_12) e6 (by decide) (by decide)
  have N7 := Fr.app N5 (Fr.nil _)
  have c7 : Steps p.tables e below S0 (T7.setTop (mkF m 15 #[.val (.ref x)] [(.int (4 : Int32)), (.int (10 : Int32)), (.int (3 : Int32)), (.ref x)])) := c7'
  have c8 : Steps p.tables e below S0 (T7.setTop (mkF m 16 #[.val (.ref x)] [(.int (6 : Int32)), (.int (3 : Int32)), (.ref x)])) := c7.trans (by
    refine XS.isub X7.here hx rfl (hb hby d7_15) rfl ?_
    exact Steps.refl _)
  obtain ⟨v9, T9, L9, X9, hS9, hZ9, hown9, R9, ⟨N9', x9, t9, kb9, rfl, K9, E9, V9, Cd9, Kb9⟩, c9'⟩ := own_wvirt X7 hx hml hZ6 hown6 hS6 hk6 (hw _ (List.mem_of_getElem? (i := 50) rfl)) (hw _ (List.mem_of_getElem? (i := 51) rfl)) (hw _ (List.mem_of_getElem? (i := 53) rfl)) (hw _ (List.mem_of_getElem? (i := 52) rfl)) (hw _ (List.mem_of_getElem? (i := 53) rfl)) (by decide) (kc := 6) (ks := 40) (h := h6) (W := 0) (b := x) (argsL := [(.int (3 : Int32)), (.int (6 : Int32))]) (rest := []) (own_wpay (W := 0) (rmSub3 l Z a0 hw hEL x t kb xa xb xc xd z fm h6 ((O0.ext E2).ext E6) ((E.ext E2).ext E6) ((V.ext E2).ext E6) ((Cd.ext E2).ext E6) ((K.ext E2).ext E6) hxa hxb hxc hxd SC hz SF hfm) hZ6 (hw _ (List.mem_of_getElem? (i := 54) rfl)) (hw _ (List.mem_of_getElem? (i := 4) rfl)) (by decide) (by decide) hEL CR6.1 all0) ((E.ext E2).ext E6) c8 rfl rfl (lenOf pd_5 rfl) rfl (by show 2 * 0 + _ ≤ _; exact Nat.le_of_eq rfl) (hb hby d7_16) e7 (by decide) (by decide)
  have N9 := Fr.app N7 N9'
  have CR9 := CR6.trans R9
  have c9 : Steps p.tables e below S0 (T9.setTop (mkF m 19 #[.val (.ref x)] [(.ref x9)])) := c9'
  refine ⟨T9, T9.vm, _, (some (.ref x9)), _, _, _, X9, by decide, by decide, (fun q => by cases q), N9, hS9, (Nat.le_refl _), hZ9, CR9, ?_, fun fs hr => ?_⟩
  · skip
    exact ⟨x9, t9, kb9, rfl, ((((Keep.refl h0 []).ext E2).ext E6).trans K9 all0), E9, V9, Cd9, Kb9⟩
  · exact own_retR X9 hx c9 hret rfl rfl (hb hby d7_19) hr
set_option maxRecDepth 65536 in
set_option maxHeartbeats 40000000 in
theorem rmCFT_3_7_11n (l : Launch) (Z : State) (a0 : Array Value) (hw : ∀ d ∈ tables_1, d.before a0 Z = true)  (h0 : Heap) (O0 : Old Z Z.heap.size h0)  :
    own_NC l Z (⟨"jdk/internal/util/Preconditions", "checkFromToIndex", "(IIILjava/util/function/BiFunction;)I"⟩ : MethodName) jdk_41_method_12_code 4 (some .int) ({ frames := 0, cells := 0, slots := 0, locals := 0 } : Room) #[(.int (3 : Int32)), (.int (7 : Int32)), (.int (11 : Int32)), .null] h0 (fun v h => v = some (.int (3 : Int32)) ∧ h = h0) := by
  refine own_nc (plainFor_of_name (by first | (simp [plainName, overriddenIn]; done) | decide +kernel)) ?_
  intro p e s m below meth c s₁ S0 X0 hx hby hml hret hnm hown hZ e0 cc
  have N0 := Fr.nil Z.heap.size
  have c0 : Steps p.tables e below S0 (s₁.setTop (mkF m 0 #[.val (.int (3 : Int32)), .val (.int (7 : Int32)), .val (.int (11 : Int32)), .val .null] [])) := cc.trans (XT.entry rfl)
  have c1 : Steps p.tables e below S0 (s₁.setTop (mkF m 23 #[.val (.int (3 : Int32)), .val (.int (7 : Int32)), .val (.int (11 : Int32)), .val .null] [(.int (3 : Int32))])) := c0.trans (by
    refine XS.iloadN X0.here hx rfl (hb hby d12_0) rfl ?_
    refine XS.ifNo X0.here hx rfl (hb hby d12_1) rfl ((if0 _ _).trans (flt (by decide : ¬ ((3 : Int32) < (0 : Int32)))).1) ?_
    refine XS.iloadN X0.here hx rfl (hb hby d12_4) rfl ?_
    refine XS.iloadN X0.here hx rfl (hb hby d12_5) rfl ?_
    refine XS.icmpNo X0.here hx rfl (hb hby d12_6) rfl (flt (by decide : ¬ ((7 : Int32) < (3 : Int32)))).2.2.1 ?_
    refine XS.iloadN X0.here hx rfl (hb hby d12_9) rfl ?_
    refine XS.iloadN X0.here hx rfl (hb hby d12_10) rfl ?_
    refine XS.icmpYes X0.here hx rfl (pc0 := 11) (pc' := 22) rfl (hb hby d12_11) rfl (flt (by decide : ¬ ((11 : Int32) < (7 : Int32)))).2.2.2 (by decide) (by decide) ?_
    refine XS.iloadN X0.here hx rfl (hb hby d12_22) rfl ?_
    exact Steps.refl _)
  refine ⟨s₁, (some (.int (3 : Int32))), _, _, _, X0, by decide, by decide, (fun q => by cases q), N0, ?_, fun fs hr => ?_⟩
  · rw [e0]
    exact ⟨rfl, rfl⟩
  · exact c1.trans (retI X0 hx hret (hb hby d12_23) hr)
set_option maxRecDepth 65536 in
set_option maxHeartbeats 40000000 in
theorem rmCFT_3_7_11r (l : Launch) (Z : State) (a0 : Array Value) (hw : ∀ d ∈ tables_1, d.before a0 Z = true) (fa : Addr) (h0 : Heap) (O0 : Old Z Z.heap.size h0)  :
    own_NC l Z (⟨"jdk/internal/util/Preconditions", "checkFromToIndex", "(IIILjava/util/function/BiFunction;)I"⟩ : MethodName) jdk_41_method_12_code 4 (some .int) ({ frames := 0, cells := 0, slots := 0, locals := 0 } : Room) #[(.int (3 : Int32)), (.int (7 : Int32)), (.int (11 : Int32)), (.ref fa)] h0 (fun v h => v = some (.int (3 : Int32)) ∧ h = h0) := by
  refine own_nc (plainFor_of_name (by first | (simp [plainName, overriddenIn]; done) | decide +kernel)) ?_
  intro p e s m below meth c s₁ S0 X0 hx hby hml hret hnm hown hZ e0 cc
  have N0 := Fr.nil Z.heap.size
  have c0 : Steps p.tables e below S0 (s₁.setTop (mkF m 0 #[.val (.int (3 : Int32)), .val (.int (7 : Int32)), .val (.int (11 : Int32)), .val (.ref fa)] [])) := cc.trans (XT.entry rfl)
  have c1 : Steps p.tables e below S0 (s₁.setTop (mkF m 23 #[.val (.int (3 : Int32)), .val (.int (7 : Int32)), .val (.int (11 : Int32)), .val (.ref fa)] [(.int (3 : Int32))])) := c0.trans (by
    refine XS.iloadN X0.here hx rfl (hb hby d12_0) rfl ?_
    refine XS.ifNo X0.here hx rfl (hb hby d12_1) rfl ((if0 _ _).trans (flt (by decide : ¬ ((3 : Int32) < (0 : Int32)))).1) ?_
    refine XS.iloadN X0.here hx rfl (hb hby d12_4) rfl ?_
    refine XS.iloadN X0.here hx rfl (hb hby d12_5) rfl ?_
    refine XS.icmpNo X0.here hx rfl (hb hby d12_6) rfl (flt (by decide : ¬ ((7 : Int32) < (3 : Int32)))).2.2.1 ?_
    refine XS.iloadN X0.here hx rfl (hb hby d12_9) rfl ?_
    refine XS.iloadN X0.here hx rfl (hb hby d12_10) rfl ?_
    refine XS.icmpYes X0.here hx rfl (pc0 := 11) (pc' := 22) rfl (hb hby d12_11) rfl (flt (by decide : ¬ ((11 : Int32) < (7 : Int32)))).2.2.2 (by decide) (by decide) ?_
    refine XS.iloadN X0.here hx rfl (hb hby d12_22) rfl ?_
    exact Steps.refl _)
  refine ⟨s₁, (some (.int (3 : Int32))), _, _, _, X0, by decide, by decide, (fun q => by cases q), N0, ?_, fun fs hr => ?_⟩
  · rw [e0]
    exact ⟨rfl, rfl⟩
  · exact c1.trans (retI X0 hx hret (hb hby d12_23) hr)
theorem rmCFT_3_7_11 (l : Launch) (Z : State) (a0 : Array Value) (hw : ∀ d ∈ tables_1, d.before a0 Z = true) (fm : Value) (h0 : Heap) (O0 : Old Z Z.heap.size h0) (hfm : fm.isRef = true) : own_NC l Z (⟨"jdk/internal/util/Preconditions", "checkFromToIndex", "(IIILjava/util/function/BiFunction;)I"⟩ : MethodName) jdk_41_method_12_code 4 (some .int) ({ frames := 0, cells := 0, slots := 0, locals := 0 } : Room) #[(.int (3 : Int32)), (.int (7 : Int32)), (.int (11 : Int32)), fm] h0 (fun v h => v = some (.int (3 : Int32)) ∧ h = h0) := by
  rcases ref_cases hfm with rfl | ⟨fa, rfl⟩
  · exact rmCFT_3_7_11n l Z a0 hw h0 O0
  · exact rmCFT_3_7_11r l Z a0 hw fa h0 O0
set_option maxRecDepth 65536 in
set_option maxHeartbeats 40000000 in
theorem rmCBE4 (l : Launch) (Z : State) (a0 : Array Value) (hw : ∀ d ∈ tables_1, d.before a0 Z = true) (z : Int32) (fm : Value) (h0 : Heap) (O0 : Old Z Z.heap.size h0) (SC : Sta Z Z.heap "java/lang/String" "COMPACT_STRINGS" "Z" (.int z)) (hz : ¬ z = 0) (SF : Sta Z Z.heap "jdk/internal/util/Preconditions" "SIOOBE_FORMATTER" "Ljava/util/function/BiFunction;" fm) (hfm : fm.isRef = true) :
    own_NC l Z (⟨"java/lang/String", "checkBoundsBeginEnd", "(III)V"⟩ : MethodName) jdk_42_method_158_code 3 none ({ frames := 1, cells := 0, slots := 0, locals := 20 } : Room) #[(.int (3 : Int32)), (.int (7 : Int32)), (.int (11 : Int32))] h0 (fun v h => v = none ∧ h = h0) := by
  refine own_nc (plainFor_of_name (by first | (simp [plainName, overriddenIn]; done) | decide +kernel)) ?_
  intro p e s m below meth c s₁ S0 X0 hx hby hml hret hnm hown hZ e0 cc
  have N0 := Fr.nil Z.heap.size
  have c0 : Steps p.tables e below S0 (s₁.setTop (mkF m 0 #[.val (.int (3 : Int32)), .val (.int (7 : Int32)), .val (.int (11 : Int32))] [])) := cc.trans (XT.entry rfl)
  have c1 : Steps p.tables e below S0 (s₁.setTop (mkF m 3 #[.val (.int (3 : Int32)), .val (.int (7 : Int32)), .val (.int (11 : Int32))] [(.int (11 : Int32)), (.int (7 : Int32)), (.int (3 : Int32))])) := c0.trans (by
    refine XS.iloadN X0.here hx rfl (hb hby d11_0) rfl ?_
    refine XS.iloadN X0.here hx rfl (hb hby d11_1) rfl ?_
    refine XS.iloadN X0.here hx rfl (hb hby d11_2) rfl ?_
    exact Steps.refl _)
  obtain ⟨T2, X2, e2, st2⟩ := getS2 X0 hx hZ hown (host := "") (Or.inl (hw _ (List.mem_of_getElem? (i := 59) rfl))) Via.refl e0 (SF.ext O0.2) (g := (mkF m 3 #[.val (.int (3 : Int32)), .val (.int (7 : Int32)), .val (.int (11 : Int32))] [(.int (11 : Int32)), (.int (7 : Int32)), (.int (3 : Int32))])) rfl (hb hby d11_3)
  have c2 : Steps p.tables e below S0 (T2.setTop (mkF m 6 #[.val (.int (3 : Int32)), .val (.int (7 : Int32)), .val (.int (11 : Int32))] [fm, (.int (11 : Int32)), (.int (7 : Int32)), (.int (3 : Int32))])) := c1.trans (st2 _ (Steps.refl _))
  obtain ⟨v3, T3, L3, X3, ⟨N3', rfl, e3⟩, c3'⟩ := own_stat X2 hx hml hZ hown (hw _ (List.mem_of_getElem? (i := 61) rfl)) (hw _ (List.mem_of_getElem? (i := 62) rfl)) (hw _ (List.mem_of_getElem? (i := 60) rfl)) (hw _ (List.mem_of_getElem? (i := 63) rfl)) (by decide) (kc := 0) (ks := 0) (h := h0) (W := 0) (argsL := [(.int (3 : Int32)), (.int (7 : Int32)), (.int (11 : Int32)), fm]) (rest := []) (own_pay (W := 0) (rmCFT_3_7_11 l Z a0 hw fm h0 O0 hfm) hZ (hw _ (List.mem_of_getElem? (i := 63) rfl)) (hw _ (List.mem_of_getElem? (i := 60) rfl)) (by decide) (by decide)) c2 rfl rfl (lenOf pd_0 rfl) rfl (by show 2 * 0 + _ ≤ _; exact Nat.le_of_eq rfl) (hb hby d11_6) e2 (by decide) (by decide)
  have N3 := Fr.app N0 N3'
  have c3 : Steps p.tables e below S0 (T3.setTop (mkF m 9 #[.val (.int (3 : Int32)), .val (.int (7 : Int32)), .val (.int (11 : Int32))] [(.int (3 : Int32))])) := c3'
  have c4 : Steps p.tables e below S0 (T3.setTop (mkF m 10 #[.val (.int (3 : Int32)), .val (.int (7 : Int32)), .val (.int (11 : Int32))] [])) := c3.trans (by
    refine XS.pop X3.here hx rfl (hb hby d11_9) rfl rfl ?_
    exact Steps.refl _)
  refine ⟨T3, none, _, _, _, X3, by decide, by decide, (fun _ => rfl), N3, ?_, fun fs hr => ?_⟩
  · rw [e3]
    exact ⟨rfl, rfl⟩
  · exact c4.trans (X3.returnOut hx hret (hb hby d11_10) hr)
set_option maxRecDepth 65536 in
set_option maxHeartbeats 40000000 in
theorem rmCL4 (l : Launch) (Z : State) (a0 : Array Value) (hw : ∀ d ∈ tables_1, d.before a0 Z = true)  (h0 : Heap) (O0 : Old Z Z.heap.size h0)  :
    own_NC l Z (⟨"java/util/Arrays", "checkLength", "(II)V"⟩ : MethodName) jdk_65_method_131_code 2 none ({ frames := 0, cells := 0, slots := 0, locals := 0 } : Room) #[(.int (3 : Int32)), (.int (7 : Int32))] h0 (fun v h => v = none ∧ h = h0) := by
  refine own_nc (plainFor_of_name (by first | (simp [plainName, overriddenIn]; done) | decide +kernel)) ?_
  intro p e s m below meth c s₁ S0 X0 hx hby hml hret hnm hown hZ e0 cc
  have N0 := Fr.nil Z.heap.size
  have c0 : Steps p.tables e below S0 (s₁.setTop (mkF m 0 #[.val (.int (3 : Int32)), .val (.int (7 : Int32))] [])) := cc.trans (XT.entry rfl)
  have c1 : Steps p.tables e below S0 (s₁.setTop (mkF m 37 #[.val (.int (3 : Int32)), .val (.int (7 : Int32))] [])) := c0.trans (by
    refine XS.iloadN X0.here hx rfl (hb hby d19_0) rfl ?_
    refine XS.iloadN X0.here hx rfl (hb hby d19_1) rfl ?_
    refine XS.icmpYes X0.here hx rfl (pc0 := 2) (pc' := 37) rfl (hb hby d19_2) rfl (flt (by decide : ¬ ((7 : Int32) < (3 : Int32)))).2.1 (by decide) (by decide) ?_
    exact Steps.refl _)
  refine ⟨s₁, none, _, _, _, X0, by decide, by decide, (fun _ => rfl), N0, ?_, fun fs hr => ?_⟩
  · rw [e0]
    exact ⟨rfl, rfl⟩
  · exact c1.trans (X0.returnOut hx hret (hb hby d19_37) hr)
set_option maxRecDepth 65536 in
set_option maxHeartbeats 40000000 in
theorem rmMin_8_4 (l : Launch) (Z : State) (a0 : Array Value) (hw : ∀ d ∈ tables_1, d.before a0 Z = true)  (h0 : Heap) (O0 : Old Z Z.heap.size h0)  :
    own_NC l Z (⟨"java/lang/Math", "min", "(II)I"⟩ : MethodName) jdk_29_method_69_code 2 (some .int) ({ frames := 0, cells := 0, slots := 0, locals := 0 } : Room) #[(.int (8 : Int32)), (.int (4 : Int32))] h0 (fun v h => v = some (.int (4 : Int32)) ∧ h = h0) := by
  refine own_nc (Jvm.Free.JP.mathPlain rfl (by decide +kernel)) ?_
  intro p e s m below meth c s₁ S0 X0 hx hby hml hret hnm hown hZ e0 cc
  have N0 := Fr.nil Z.heap.size
  have c0 : Steps p.tables e below S0 (s₁.setTop (mkF m 0 #[.val (.int (8 : Int32)), .val (.int (4 : Int32))] [])) := cc.trans (XT.entry rfl)
  have c1 : Steps p.tables e below S0 (s₁.setTop (mkF m 10 #[.val (.int (8 : Int32)), .val (.int (4 : Int32))] [(.int (4 : Int32))])) := c0.trans (by
    refine XS.iloadN X0.here hx rfl (hb hby d20_0) rfl ?_
    refine XS.iloadN X0.here hx rfl (hb hby d20_1) rfl ?_
    refine XS.icmpYes X0.here hx rfl (pc0 := 2) (pc' := 9) rfl (hb hby d20_2) rfl (tlt (by decide : (4 : Int32) < (8 : Int32))).2.2.1 (by decide) (by decide) ?_
    refine XS.iloadN X0.here hx rfl (hb hby d20_9) rfl ?_
    exact Steps.refl _)
  refine ⟨s₁, (some (.int (4 : Int32))), _, _, _, X0, by decide, by decide, (fun q => by cases q), N0, ?_, fun fs hr => ?_⟩
  · rw [e0]
    exact ⟨rfl, rfl⟩
  · exact c1.trans (retI X0 hx hret (hb hby d20_10) hr)
set_option maxRecDepth 65536 in
set_option maxHeartbeats 40000000 in
theorem rmCORB4 (l : Launch) (Z : State) (a0 : Array Value) (hw : ∀ d ∈ tables_1, d.before a0 Z = true) (t : Addr) (kb : ClassId) (xa xb xc xd : Int32) (h0 : Heap) (O0 : Old Z Z.heap.size h0) (Kt : Arv Z h0 t kb .byte (11 : Int32) [(.int (82 : Int32)), (.int (95 : Int32)), (.int (95 : Int32)), (.int (xa.toInt8.toInt32)), (.int (xb.toInt8.toInt32)), (.int (xc.toInt8.toInt32)), (.int (xd.toInt8.toInt32)), (.int (46 : Int32)), (.int (115 : Int32)), (.int (113 : Int32)), (.int (108 : Int32))] (.int (0 : Int32))) :
    own_NC l Z (⟨"java/util/Arrays", "copyOfRangeByte", "([BII)[B"⟩ : MethodName) jdk_65_method_133_code 5 (some (.array .byte)) ({ frames := 1, cells := 1, slots := 4, locals := 40 } : Room) #[(.ref t), (.int (3 : Int32)), (.int (7 : Int32))] h0 (fun v h => ∃ (u : Addr) (ku : ClassId), v = some (.ref u) ∧ Keep h0 h [] ∧ h0.size ≤ u ∧ Arv Z h u ku .byte (4 : Int32) [(.int (xa.toInt8.toInt32)), (.int (xb.toInt8.toInt32)), (.int (xc.toInt8.toInt32)), (.int (xd.toInt8.toInt32))] (.int (0 : Int32))) := by
  refine own_nc (plainFor_of_name (by first | (simp [plainName, overriddenIn]; done) | decide +kernel)) ?_
  intro p e s m below meth c s₁ S0 X0 hx hby hml hret hnm hown hZ e0 cc
  have N0 := Fr.nil Z.heap.size
  have c0 : Steps p.tables e below S0 (s₁.setTop (mkF m 0 #[.val (.ref t), .val (.int (3 : Int32)), .val (.int (7 : Int32)), .unset, .unset] [])) := cc.trans (XT.entry rfl)
  have c1 : Steps p.tables e below S0 (s₁.setTop (mkF m 2 #[.val (.ref t), .val (.int (3 : Int32)), .val (.int (7 : Int32)), .unset, .unset] [(.int (7 : Int32)), (.int (3 : Int32))])) := c0.trans (by
    refine XS.iloadN X0.here hx rfl (hb hby d18_0) rfl ?_
    refine XS.iloadN X0.here hx rfl (hb hby d18_1) rfl ?_
    exact Steps.refl _)
  obtain ⟨v2, T2, L2, X2, ⟨N2', rfl, e2⟩, c2'⟩ := own_stat X0 hx hml hZ hown (hw _ (List.mem_of_getElem? (i := 91) rfl)) (hw _ (List.mem_of_getElem? (i := 92) rfl)) (hw _ (List.mem_of_getElem? (i := 86) rfl)) (hw _ (List.mem_of_getElem? (i := 93) rfl)) (by decide) (kc := 0) (ks := 0) (h := h0) (W := 0) (argsL := [(.int (3 : Int32)), (.int (7 : Int32))]) (rest := []) (own_pay (W := 0) (rmCL4 l Z a0 hw h0 O0) hZ (hw _ (List.mem_of_getElem? (i := 93) rfl)) (hw _ (List.mem_of_getElem? (i := 86) rfl)) (by decide) (by decide)) c1 rfl rfl (lenOf pd_6 rfl) rfl (by show 2 * 0 + _ ≤ _; exact Nat.le_of_eq rfl) (hb hby d18_2) e0 (by decide) (by decide)
  have N2 := Fr.app N0 N2'
  have c2 : Steps p.tables e below S0 (T2.setTop (mkF m 5 #[.val (.ref t), .val (.int (3 : Int32)), .val (.int (7 : Int32)), .unset, .unset] [])) := c2'
  have c3 : Steps p.tables e below S0 (T2.setTop (mkF m 10 #[.val (.ref t), .val (.int (3 : Int32)), .val (.int (7 : Int32)), .val (.int (4 : Int32)), .unset] [(.int (4 : Int32))])) := c2.trans (by
    refine XS.iloadN X2.here hx rfl (hb hby d18_5) rfl ?_
    refine XS.iloadN X2.here hx rfl (hb hby d18_6) rfl ?_
    refine XS.isub X2.here hx rfl (hb hby d18_7) rfl ?_
    refine XS.istoreN X2.here hx rfl (hb hby d18_8) rfl (l' := #[.val (.ref t), .val (.int (3 : Int32)), .val (.int (7 : Int32)), .val (.int (4 : Int32)), .unset]) rfl ?_
    refine XS.iloadN X2.here hx rfl (hb hby d18_9) rfl ?_
    exact Steps.refl _)
  obtain ⟨T4, h4, k4, X4, e4, E4, A4, st4⟩ := newP X2 hx hZ (hw _ (List.mem_of_getElem? (i := 20) rfl)) e2 (g := (mkF m 10 #[.val (.ref t), .val (.int (3 : Int32)), .val (.int (7 : Int32)), .val (.int (4 : Int32)), .unset] [(.int (4 : Int32))])) rfl (hb hby d18_10) rfl (by decide) (cap := 4) (by decide) (by decide) (by decide) (by decide)
  obtain ⟨b4, g4⟩ : ∃ z, z = h0.size := ⟨_, rfl⟩
  rw [← g4] at A4 st4
  have lo4 : h0.size ≤ b4 := Nat.le_of_eq g4.symm
  have ge4 : Z.heap.size ≤ b4 := Nat.le_trans O0.2.1 lo4
  have V4 := Arv.new A4 (by decide)
  have V4a : Arv Z h4 b4 k4 .byte (4 : Int32) [(.int (0 : Int32)), (.int (0 : Int32)), (.int (0 : Int32)), (.int (0 : Int32))] (.int (0 : Int32)) := V4.pad (pad_rep [] (.int (0 : Int32)) 4)
  have c4 : Steps p.tables e below S0 (T4.setTop (mkF m 12 #[.val (.ref t), .val (.int (3 : Int32)), .val (.int (7 : Int32)), .val (.int (4 : Int32)), .unset] [(.ref b4)])) := c3.trans (st4 _ (Steps.refl _))
  have c5 : Steps p.tables e below S0 (T4.setTop (mkF m 20 #[.val (.ref t), .val (.int (3 : Int32)), .val (.int (7 : Int32)), .val (.int (4 : Int32)), .val (.ref b4)] [(.ref t), (.int (0 : Int32)), (.ref b4), (.int (3 : Int32)), (.ref t)])) := c4.trans (by
    refine XS.astore X4.here hx rfl (hb hby d18_12) rfl rfl (l' := #[.val (.ref t), .val (.int (3 : Int32)), .val (.int (7 : Int32)), .val (.int (4 : Int32)), .val (.ref b4)]) rfl ?_
    refine XS.aloadN X4.here hx rfl (hb hby d18_14) rfl rfl ?_
    refine XS.iloadN X4.here hx rfl (hb hby d18_15) rfl ?_
    refine XS.aload X4.here hx rfl (hb hby d18_16) rfl rfl ?_
    refine XS.iconst X4.here hx rfl (hb hby d18_18) ?_
    refine XS.aloadN X4.here hx rfl (hb hby d18_19) rfl rfl ?_
    exact Steps.refl _)
  obtain ⟨cl6, Ar6, q6, S6, M6, H6, G6⟩ := id (Kt.ext E4)
  have c6 : Steps p.tables e below S0 (T4.setTop (mkF m 21 #[.val (.ref t), .val (.int (3 : Int32)), .val (.int (7 : Int32)), .val (.int (4 : Int32)), .val (.ref b4)] [(.int (11 : Int32)), (.int (0 : Int32)), (.ref b4), (.int (3 : Int32)), (.ref t)])) := c5.trans (by
    refine X4.arraylength hx (by rw [show T4.heap = h4 from e4]; exact Ar6.1) (State.isArrayOf_alike (hZ).alike Ar6.2.1) (g := (mkF m 20 #[.val (.ref t), .val (.int (3 : Int32)), .val (.int (7 : Int32)), .val (.int (4 : Int32)), .val (.ref b4)] [(.ref t), (.int (0 : Int32)), (.ref b4), (.int (3 : Int32)), (.ref t)])) rfl rfl (hb hby d18_20) _ ?_
    rw [len_of S6 M6]
    exact Steps.refl _)
  have c7 : Steps p.tables e below S0 (T4.setTop (mkF m 24 #[.val (.ref t), .val (.int (3 : Int32)), .val (.int (7 : Int32)), .val (.int (4 : Int32)), .val (.ref b4)] [(.int (4 : Int32)), (.int (8 : Int32)), (.int (0 : Int32)), (.ref b4), (.int (3 : Int32)), (.ref t)])) := c6.trans (by
    refine XS.iloadN X4.here hx rfl (hb hby d18_21) rfl ?_
    refine XS.isub X4.here hx rfl (hb hby d18_22) rfl ?_
    refine XS.iloadN X4.here hx rfl (hb hby d18_23) rfl ?_
    exact Steps.refl _)
  obtain ⟨v8, T8, L8, X8, ⟨N8', rfl, e8⟩, c8'⟩ := own_stat X4 hx hml hZ hown (hw _ (List.mem_of_getElem? (i := 94) rfl)) (hw _ (List.mem_of_getElem? (i := 95) rfl)) (hw _ (List.mem_of_getElem? (i := 96) rfl)) (hw _ (List.mem_of_getElem? (i := 97) rfl)) (by decide) (kc := 0) (ks := 0) (h := h4) (W := 4) (argsL := [(.int (8 : Int32)), (.int (4 : Int32))]) (rest := [(.int (0 : Int32)), (.ref b4), (.int (3 : Int32)), (.ref t)]) (own_pay (W := 4) (rmMin_8_4 l Z a0 hw h4 (O0.ext E4)) hZ (hw _ (List.mem_of_getElem? (i := 97) rfl)) (hw _ (List.mem_of_getElem? (i := 96) rfl)) (by decide) (by decide)) c7 rfl rfl (lenOf pd_7 rfl) rfl (by show 2 * 0 + _ ≤ _; exact Nat.le_of_eq rfl) (hb hby d18_24) e4 (by decide) (by decide)
  have N8 := Fr.app N2 N8'
  have c8 : Steps p.tables e below S0 (T8.setTop (mkF m 27 #[.val (.ref t), .val (.int (3 : Int32)), .val (.int (7 : Int32)), .val (.int (4 : Int32)), .val (.ref b4)] [(.int (4 : Int32)), (.int (0 : Int32)), (.ref b4), (.int (3 : Int32)), (.ref t)])) := c8'
  obtain ⟨T9, h9, L9, X9, e9, N9, K9, V9, st9⟩ := cpA X8 hx hZ hown (hw _ (List.mem_of_getElem? (i := 98) rfl)) (hw _ (List.mem_of_getElem? (i := 101) rfl)) (hw _ (List.mem_of_getElem? (i := 99) rfl)) (hw _ (List.mem_of_getElem? (i := 100) rfl)) e8 (us := [(.int (xa.toInt8.toInt32)), (.int (xb.toInt8.toInt32)), (.int (xc.toInt8.toInt32)), (.int (xd.toInt8.toInt32))]) (Kt.ext E4) V4a (Or.inl ⟨rfl, rfl⟩) (by decide) (by decide) (by decide) (by decide) (by decide) rfl (by decide) N8 ge4 (g := (mkF m 27 #[.val (.ref t), .val (.int (3 : Int32)), .val (.int (7 : Int32)), .val (.int (4 : Int32)), .val (.ref b4)] [(.int (4 : Int32)), (.int (0 : Int32)), (.ref b4), (.int (3 : Int32)), (.ref t)])) rfl (by rw [hml]; rfl) rfl (hb hby d18_27) (by decide) (W := 0) (by show 2 * 0 + _ ≤ _; exact Nat.le_of_eq rfl) (by decide)
  have V9a : Arv Z h9 b4 k4 .byte (4 : Int32) [(.int (xa.toInt8.toInt32)), (.int (xb.toInt8.toInt32)), (.int (xc.toInt8.toInt32)), (.int (xd.toInt8.toInt32))] (.int (0 : Int32)) := V9
  have c9 : Steps p.tables e below S0 (T9.setTop (mkF m 30 #[.val (.ref t), .val (.int (3 : Int32)), .val (.int (7 : Int32)), .val (.int (4 : Int32)), .val (.ref b4)] [])) := c8.trans (st9 _ (Steps.refl _))
  have c10 : Steps p.tables e below S0 (T9.setTop (mkF m 32 #[.val (.ref t), .val (.int (3 : Int32)), .val (.int (7 : Int32)), .val (.int (4 : Int32)), .val (.ref b4)] [(.ref b4)])) := c9.trans (by
    refine XS.aload X9.here hx rfl (hb hby d18_30) rfl rfl ?_
    exact Steps.refl _)
  refine ⟨T9, (some (.ref b4)), _, _, _, X9, by decide, by decide, (fun q => by cases q), N9, ?_, fun fs hr => ?_⟩
  · rw [e9]
    exact ⟨b4, k4, rfl, (((Keep.refl h0 []).ext E4).trans K9 (allS (Or.inr (Nat.le_trans (Keep.refl h0 []).1 lo4)) all0)), (Nat.le_trans (Keep.refl h0 []).1 lo4), V9a⟩
  · exact own_retR X9 hx c10 hret rfl rfl (hb hby d18_32) hr
set_option maxRecDepth 65536 in
set_option maxHeartbeats 40000000 in
theorem rmCOR4 (l : Launch) (Z : State) (a0 : Array Value) (hw : ∀ d ∈ tables_1, d.before a0 Z = true) (t : Addr) (kb : ClassId) (xa xb xc xd : Int32) (h0 : Heap) (O0 : Old Z Z.heap.size h0) (Kt : Arv Z h0 t kb .byte (11 : Int32) [(.int (82 : Int32)), (.int (95 : Int32)), (.int (95 : Int32)), (.int (xa.toInt8.toInt32)), (.int (xb.toInt8.toInt32)), (.int (xc.toInt8.toInt32)), (.int (xd.toInt8.toInt32)), (.int (46 : Int32)), (.int (115 : Int32)), (.int (113 : Int32)), (.int (108 : Int32))] (.int (0 : Int32))) :
    own_NC l Z (⟨"java/util/Arrays", "copyOfRange", "([BII)[B"⟩ : MethodName) jdk_65_method_132_code 3 (some (.array .byte)) ({ frames := 2, cells := 1, slots := 4, locals := 60 } : Room) #[(.ref t), (.int (3 : Int32)), (.int (7 : Int32))] h0 (fun v h => ∃ (u : Addr) (ku : ClassId), v = some (.ref u) ∧ Keep h0 h [] ∧ h0.size ≤ u ∧ Arv Z h u ku .byte (4 : Int32) [(.int (xa.toInt8.toInt32)), (.int (xb.toInt8.toInt32)), (.int (xc.toInt8.toInt32)), (.int (xd.toInt8.toInt32))] (.int (0 : Int32))) := by
  refine own_nc (plainFor_of_name (by first | (simp [plainName, overriddenIn]; done) | decide +kernel)) ?_
  intro p e s m below meth c s₁ S0 X0 hx hby hml hret hnm hown hZ e0 cc
  have N0 := Fr.nil Z.heap.size
  have c0 : Steps p.tables e below S0 (s₁.setTop (mkF m 0 #[.val (.ref t), .val (.int (3 : Int32)), .val (.int (7 : Int32))] [])) := cc.trans (XT.entry rfl)
  have c1 : Steps p.tables e below S0 (s₁.setTop (mkF m 13 #[.val (.ref t), .val (.int (3 : Int32)), .val (.int (7 : Int32))] [(.int (7 : Int32)), (.int (3 : Int32)), (.ref t)])) := c0.trans (by
    refine XS.iloadN X0.here hx rfl (hb hby d17_0) rfl ?_
    refine XS.ifYes X0.here hx rfl (pc0 := 1) (pc' := 10) rfl (hb hby d17_1) rfl ((if0 _ _).trans (feq (by decide : ¬ ((3 : Int32) = (0 : Int32)))).2) (by decide) (by decide) ?_
    refine XS.aloadN X0.here hx rfl (hb hby d17_10) rfl rfl ?_
    refine XS.iloadN X0.here hx rfl (hb hby d17_11) rfl ?_
    refine XS.iloadN X0.here hx rfl (hb hby d17_12) rfl ?_
    exact Steps.refl _)
  obtain ⟨v2, T2, L2, X2, ⟨N2', u2, ku2, rfl, K2, lo2, Ku2⟩, c2'⟩ := own_stat X0 hx hml hZ hown (hw _ (List.mem_of_getElem? (i := 88) rfl)) (hw _ (List.mem_of_getElem? (i := 89) rfl)) (hw _ (List.mem_of_getElem? (i := 86) rfl)) (hw _ (List.mem_of_getElem? (i := 90) rfl)) (by decide) (kc := 1) (ks := 4) (h := h0) (W := 0) (argsL := [(.ref t), (.int (3 : Int32)), (.int (7 : Int32))]) (rest := []) (own_pay (W := 0) (rmCORB4 l Z a0 hw t kb xa xb xc xd h0 O0 Kt) hZ (hw _ (List.mem_of_getElem? (i := 90) rfl)) (hw _ (List.mem_of_getElem? (i := 86) rfl)) (by decide) (by decide)) c1 rfl rfl (lenOf pd_8 rfl) rfl (by show 2 * 0 + _ ≤ _; exact Nat.le_of_eq rfl) (hb hby d17_13) e0 (by decide) (by decide)
  have N2 := Fr.app N0 N2'
  have c2 : Steps p.tables e below S0 (T2.setTop (mkF m 16 #[.val (.ref t), .val (.int (3 : Int32)), .val (.int (7 : Int32))] [(.ref u2)])) := c2'
  refine ⟨T2, (some (.ref u2)), _, _, _, X2, by decide, by decide, (fun q => by cases q), N2, ?_, fun fs hr => ?_⟩
  · skip
    exact ⟨u2, ku2, rfl, ((Keep.refl h0 []).trans K2 all0), (Nat.le_trans (Keep.refl h0 []).1 lo2), Ku2⟩
  · exact own_retR X2 hx c2 hret rfl rfl (hb hby d17_16) hr
set_option maxRecDepth 65536 in
set_option maxHeartbeats 40000000 in
theorem rmNS4 (l : Launch) (Z : State) (a0 : Array Value) (hw : ∀ d ∈ tables_1, d.before a0 Z = true) (hEL : EW Z a0 EL) (t : Addr) (kb : ClassId) (xa xb xc xd : Int32) (h0 : Heap) (O0 : Old Z Z.heap.size h0) (Kt : Arv Z h0 t kb .byte (11 : Int32) [(.int (82 : Int32)), (.int (95 : Int32)), (.int (95 : Int32)), (.int (xa.toInt8.toInt32)), (.int (xb.toInt8.toInt32)), (.int (xc.toInt8.toInt32)), (.int (xd.toInt8.toInt32)), (.int (46 : Int32)), (.int (115 : Int32)), (.int (113 : Int32)), (.int (108 : Int32))] (.int (0 : Int32))) :
    own_WC l Z EL (⟨"java/lang/StringLatin1", "newString", "([BII)Ljava/lang/String;"⟩ : MethodName) jdk_43_method_47_code 3 (some (.object "java/lang/String")) ({ frames := 3, cells := 6, slots := 40, locals := 80 } : Room) #[(.ref t), (.int (3 : Int32)), (.int (4 : Int32))] h0 [] (fun v h => (∃ (x t : Addr) (kb : ClassId), v = some (.ref x) ∧ Keep h0 h [] ∧ h0.size ≤ x ∧ Exa Z h x "java/lang/String" ∧ Fld Z h x "java/lang/String" "value" "[B" (.ref t) ∧ Fld Z h x "java/lang/String" "coder" "B" (.int (0 : Int32)) ∧ Arv Z h t kb .byte (Int32.ofNat ([xa, xb, xc, xd] : List Int32).length) ((([xa, xb, xc, xd] : List Int32).map (fun c : Int32 => c.toInt8.toInt32)).map Value.int) (.int (0 : Int32)))) := by
  refine own_wc (plainFor_of_name (by first | (simp [plainName, overriddenIn]; done) | decide +kernel)) hEL ?_
  intro p e s m below meth c s₁ S0 X0 hx hby hml hret hnm hown hZ e0 hS0 CR0 hsf cc
  have N0 := Fr.nil Z.heap.size
  have hk0 : 0 ≤ h0.size := Nat.zero_le _
  have hstr : ∀ d ∈ Bundle.stringAtoms, d.before a0 Z = true := fun d hd => hw d (own_strA d hd)
  have c0 : Steps p.tables e below S0 (s₁.setTop (mkF m 0 #[.val (.ref t), .val (.int (3 : Int32)), .val (.int (4 : Int32))] [])) := cc.trans (XT.entry rfl)
  have c1 : Steps p.tables e below S0 (s₁.setTop (mkF m 7 #[.val (.ref t), .val (.int (3 : Int32)), .val (.int (4 : Int32))] [])) := c0.trans (by
    refine XS.iloadN X0.here hx rfl (hb hby d14_0) rfl ?_
    refine XS.ifYes X0.here hx rfl (pc0 := 1) (pc' := 7) rfl (hb hby d14_1) rfl ((if0 _ _).trans (feq (by decide : ¬ ((4 : Int32) = (0 : Int32)))).2) (by decide) (by decide) ?_
    exact Steps.refl _)
  obtain ⟨T2, h2, X2, e2, E2, A2, D2, -, st2⟩ := newO X0 hx hZ hown (hw _ (List.mem_of_getElem? (i := 83) rfl)) (hw _ (List.mem_of_getElem? (i := 3) rfl)) (hw _ (List.mem_of_getElem? (i := 4) rfl)) e0 (g := (mkF m 7 #[.val (.ref t), .val (.int (3 : Int32)), .val (.int (4 : Int32))] [])) rfl (hb hby d14_7) (by decide) (by decide)
  obtain ⟨b2, g2⟩ : ∃ z, z = h0.size := ⟨_, rfl⟩
  rw [← g2] at A2 D2 st2
  have lo2 : h0.size ≤ b2 := Nat.le_of_eq g2.symm
  have ge2 : Z.heap.size ≤ b2 := Nat.le_trans O0.2.1 lo2
  have R2 := CHr.ext (EL := EL) E2 CR0.1
  have sf2 := Safe.ext E2 CR0.1 (Safe.new lo2)
  have CR2 := CR0.trans R2
  have hk2 := Nat.le_trans hk0 R2.2.1
  have F2_coder : Fld Z h2 b2 "java/lang/String" "coder" "B" (.int (0 : Int32)) := D2 (Or.inr (hw _ (List.mem_of_getElem? (i := 28) rfl))) (ty := .byte) (by decide)
  have F2_value : Fld Z h2 b2 "java/lang/String" "value" "[B" .null := D2 (Or.inr (hw _ (List.mem_of_getElem? (i := 30) rfl))) (ty := (.array .byte)) (by decide)
  have c2 : Steps p.tables e below S0 (T2.setTop (mkF m 10 #[.val (.ref t), .val (.int (3 : Int32)), .val (.int (4 : Int32))] [(.ref b2)])) := c1.trans (st2 _ (Steps.refl _))
  have c3 : Steps p.tables e below S0 (T2.setTop (mkF m 16 #[.val (.ref t), .val (.int (3 : Int32)), .val (.int (4 : Int32))] [(.int (7 : Int32)), (.int (3 : Int32)), (.ref t), (.ref b2), (.ref b2)])) := c2.trans (by
    refine XS.dup X2.here hx rfl (hb hby d14_10) rfl rfl ?_
    refine XS.aloadN X2.here hx rfl (hb hby d14_11) rfl rfl ?_
    refine XS.iloadN X2.here hx rfl (hb hby d14_12) rfl ?_
    refine XS.iloadN X2.here hx rfl (hb hby d14_13) rfl ?_
    refine XS.iloadN X2.here hx rfl (hb hby d14_14) rfl ?_
    refine XS.iadd X2.here hx rfl (hb hby d14_15) rfl ?_
    exact Steps.refl _)
  obtain ⟨v4, T4, L4, X4, ⟨N4', u4, ku4, rfl, K4, lo4, Ku4⟩, c4'⟩ := own_stat X2 hx hml hZ hown (hw _ (List.mem_of_getElem? (i := 84) rfl)) (hw _ (List.mem_of_getElem? (i := 85) rfl)) (hw _ (List.mem_of_getElem? (i := 86) rfl)) (hw _ (List.mem_of_getElem? (i := 87) rfl)) (by decide) (kc := 1) (ks := 4) (h := h2) (W := 2) (argsL := [(.ref t), (.int (3 : Int32)), (.int (7 : Int32))]) (rest := [(.ref b2), (.ref b2)]) (own_pay (W := 2) (rmCOR4 l Z a0 hw t kb xa xb xc xd h2 (O0.ext E2) (Kt.ext E2)) hZ (hw _ (List.mem_of_getElem? (i := 87) rfl)) (hw _ (List.mem_of_getElem? (i := 86) rfl)) (by decide) (by decide)) c3 rfl rfl (lenOf pd_8 rfl) rfl (by show 2 * 0 + _ ≤ _; exact Nat.le_of_eq rfl) (hb hby d14_16) e2 (by decide) (by decide)
  have N4 := Fr.app N0 N4'
  have R4 := CHr.keep K4 sf0 CR2.1
  have CR4 := CR2.trans R4
  have hk4 := Nat.le_trans hk2 R4.2.1
  have c4 : Steps p.tables e below S0 (T4.setTop (mkF m 19 #[.val (.ref t), .val (.int (3 : Int32)), .val (.int (4 : Int32))] [(.ref u4), (.ref b2), (.ref b2)])) := c4'
  have c5 : Steps p.tables e below S0 (T4.setTop (mkF m 20 #[.val (.ref t), .val (.int (3 : Int32)), .val (.int (4 : Int32))] [(.int (0 : Int32)), (.ref u4), (.ref b2), (.ref b2)])) := c4.trans (by
    refine XS.iconst X4.here hx rfl (hb hby d14_19) ?_
    exact Steps.refl _)
  obtain ⟨v6, T6, L6, X6, ⟨N6', rfl, K6, E6, V6, Cd6⟩, c6'⟩ := own_spec X4 hx hml hZ hown rfl (hw _ (List.mem_of_getElem? (i := 102) rfl)) (hw _ (List.mem_of_getElem? (i := 103) rfl)) (hw _ (List.mem_of_getElem? (i := 104) rfl)) (by decide) (kc := 0) (ks := 0) (h := T4.heap) (W := 1) (b := b2) (argsL := [(.ref u4), (.int (0 : Int32))]) (rest := [(.ref b2)]) (own_pay (W := 1) (rmIB l Z a0 hw b2 u4 _ _ T4.heap ((O0.ext E2).keep K4 all0) (A2.keep K4) (F2_value.keep K4 nin0) (F2_coder.keep K4 nin0) ge2) hZ (hw _ (List.mem_of_getElem? (i := 104) rfl)) (hw _ (List.mem_of_getElem? (i := 4) rfl)) (by decide) (by decide)) c5 rfl rfl (lenOf pd_9 rfl) rfl (by show 2 * 0 + _ ≤ _; exact Nat.le_of_eq rfl) (hb hby d14_20) rfl (by decide) (by decide)
  have N6 := Fr.app N4 N6'
  have R6 := CHr.keep K6 (sfS (R4.safe A2.lt sf2) sf0) CR4.1
  have CR6 := CR4.trans R6
  have hk6 := Nat.le_trans hk4 R6.2.1
  have c6 : Steps p.tables e below S0 (T6.setTop (mkF m 23 #[.val (.ref t), .val (.int (3 : Int32)), .val (.int (4 : Int32))] [(.ref b2)])) := c6'
  refine ⟨T6, s.vm, _, (some (.ref b2)), _, _, _, X6, by decide, by decide, (fun q => by cases q), N6, hS0, hk6, hZ, CR6, ?_, fun fs hr => ?_⟩
  · skip
    exact ⟨b2, u4, ku4, rfl, ((((Keep.refl h0 []).ext E2).trans K4 all0).trans K6 (allS (Or.inr (Nat.le_trans (Keep.refl h0 []).1 lo2)) all0)), (Nat.le_trans (Keep.refl h0 []).1 lo2), E6, V6, Cd6, (Ku4.keep K6 (ninS (Ne.symm (Nat.ne_of_lt (Nat.lt_of_lt_of_le A2.lt lo4))) nin0))⟩
  · exact own_retR X6 hx c6 hret rfl rfl (hb hby d14_23) hr
set_option maxRecDepth 65536 in
set_option maxHeartbeats 40000000 in
theorem rmSub4 (l : Launch) (Z : State) (a0 : Array Value) (hw : ∀ d ∈ tables_1, d.before a0 Z = true) (hEL : EW Z a0 EL) (x t : Addr) (kb : ClassId) (xa xb xc xd : Int32) (z : Int32) (fm : Value) (h0 : Heap) (O0 : Old Z Z.heap.size h0) (E : Exa Z h0 x "java/lang/String") (V : Fld Z h0 x "java/lang/String" "value" "[B" (.ref t)) (Cd : Fld Z h0 x "java/lang/String" "coder" "B" (.int (0 : Int32))) (K : Arv Z h0 t kb .byte (Int32.ofNat ([(82 : Int32), (95 : Int32), (95 : Int32), xa, xb, xc, xd, (46 : Int32), (115 : Int32), (113 : Int32), (108 : Int32)] : List Int32).length) ((([(82 : Int32), (95 : Int32), (95 : Int32), xa, xb, xc, xd, (46 : Int32), (115 : Int32), (113 : Int32), (108 : Int32)] : List Int32).map (fun c : Int32 => c.toInt8.toInt32)).map Value.int) (.int (0 : Int32))) (hxa : own_B xa) (hxb : own_B xb) (hxc : own_B xc) (hxd : own_B xd) (SC : Sta Z Z.heap "java/lang/String" "COMPACT_STRINGS" "Z" (.int z)) (hz : ¬ z = 0) (SF : Sta Z Z.heap "jdk/internal/util/Preconditions" "SIOOBE_FORMATTER" "Ljava/util/function/BiFunction;" fm) (hfm : fm.isRef = true) :
    own_WC l Z EL (⟨"java/lang/String", "substring", "(II)Ljava/lang/String;"⟩ : MethodName) jdk_42_method_92_code 5 (some (.object "java/lang/String")) ({ frames := 5, cells := 6, slots := 40, locals := 110 } : Room) #[(.ref x), (.int (3 : Int32)), (.int (7 : Int32))] h0 [] (fun v h => (∃ (x t : Addr) (kb : ClassId), v = some (.ref x) ∧ Keep h0 h [] ∧ Exa Z h x "java/lang/String" ∧ Fld Z h x "java/lang/String" "value" "[B" (.ref t) ∧ Fld Z h x "java/lang/String" "coder" "B" (.int (0 : Int32)) ∧ Arv Z h t kb .byte (Int32.ofNat ([xa, xb, xc, xd] : List Int32).length) ((([xa, xb, xc, xd] : List Int32).map (fun c : Int32 => c.toInt8.toInt32)).map Value.int) (.int (0 : Int32)))) := by
  refine own_wc (plainFor_of_name (by first | (simp [plainName, overriddenIn]; done) | decide +kernel)) hEL ?_
  intro p e s m below meth c s₁ S0 X0 hx hby hml hret hnm hown hZ e0 hS0 CR0 hsf cc
  have N0 := Fr.nil Z.heap.size
  have hk0 : 0 ≤ h0.size := Nat.zero_le _
  have hstr : ∀ d ∈ Bundle.stringAtoms, d.before a0 Z = true := fun d hd => hw d (own_strA d hd)
  have c0 : Steps p.tables e below S0 (s₁.setTop (mkF m 0 #[.val (.ref x), .val (.int (3 : Int32)), .val (.int (7 : Int32)), .unset, .unset] [])) := cc.trans (XT.entry rfl)
  have c1 : Steps p.tables e below S0 (s₁.setTop (mkF m 1 #[.val (.ref x), .val (.int (3 : Int32)), .val (.int (7 : Int32)), .unset, .unset] [(.ref x)])) := c0.trans (by
    refine XS.aloadN X0.here hx rfl (hb hby d10_0) rfl rfl ?_
    exact Steps.refl _)
  obtain ⟨v2, T2, L2, X2, ⟨rfl, rfl, e2⟩, c2'⟩ := own_virt X0 hx hml hZ hown (hw _ (List.mem_of_getElem? (i := 55) rfl)) (hw _ (List.mem_of_getElem? (i := 40) rfl)) (hw _ (List.mem_of_getElem? (i := 42) rfl)) (hw _ (List.mem_of_getElem? (i := 41) rfl)) (hw _ (List.mem_of_getElem? (i := 42) rfl)) (by decide) (Q := fun v h' L => v = some (.int (Int32.ofNat ([(82 : Int32), (95 : Int32), (95 : Int32), xa, xb, xc, xd, (46 : Int32), (115 : Int32), (113 : Int32), (108 : Int32)] : List Int32).length)) ∧ L = [] ∧ h' = h0) (kc := 0) (ks := 0) (h := h0) (W := 0) (b := x) (argsL := []) (rest := []) (StrChars.Road.lenW (s := (s.setVm s.vm)) (R := ({ frames := 5, cells := 6, slots := 40, locals := 110 } : Room)) (W := 0) hZ (own_wl hw) (kI := 4) (hw _ (List.mem_of_getElem? (i := 3) rfl)) (cs := [(82 : Int32), (95 : Int32), (95 : Int32), xa, xb, xc, xd, (46 : Int32), (115 : Int32), (113 : Int32), (108 : Int32)]) E V Cd K (StrChars.Road.codOf (n := ([(82 : Int32), (95 : Int32), (95 : Int32), xa, xb, xc, xd, (46 : Int32), (115 : Int32), (113 : Int32), (108 : Int32)] : List Int32).length) rfl (fun c hc => ((own_cons (own_Bl 82 (by decide)) (own_cons (own_Bl 95 (by decide)) (own_cons (own_Bl 95 (by decide)) (own_cons hxa (own_cons hxb (own_cons hxc (own_cons hxd (own_cons (own_Bl 46 (by decide)) (own_cons (own_Bl 115 (by decide)) (own_cons (own_Bl 113 (by decide)) (own_cons (own_Bl 108 (by decide)) own_nil))))))))))) c hc).rng.2)) (fun c hc => ((own_cons (own_Bl 82 (by decide)) (own_cons (own_Bl 95 (by decide)) (own_cons (own_Bl 95 (by decide)) (own_cons hxa (own_cons hxb (own_cons hxc (own_cons hxd (own_cons (own_Bl 46 (by decide)) (own_cons (own_Bl 115 (by decide)) (own_cons (own_Bl 113 (by decide)) (own_cons (own_Bl 108 (by decide)) own_nil))))))))))) c hc).rng2) (SC.ext O0.2) hz (Nat.le_of_ble_eq_true rfl) (by decide) (by decide)) E c1 rfl rfl (lenOf pd_1 rfl) rfl (by show 2 * 0 + _ ≤ _; exact Nat.le_of_eq rfl) (hb hby d10_1) e0 (by decide) (by decide)
  have N2 := Fr.app N0 (Fr.nil _)
  have c2 : Steps p.tables e below S0 (T2.setTop (mkF m 4 #[.val (.ref x), .val (.int (3 : Int32)), .val (.int (7 : Int32)), .unset, .unset] [(.int (11 : Int32))])) := c2'
  have c3 : Steps p.tables e below S0 (T2.setTop (mkF m 8 #[.val (.ref x), .val (.int (3 : Int32)), .val (.int (7 : Int32)), .val (.int (11 : Int32)), .unset] [(.int (11 : Int32)), (.int (7 : Int32)), (.int (3 : Int32))])) := c2.trans (by
    refine XS.istoreN X2.here hx rfl (hb hby d10_4) rfl (l' := #[.val (.ref x), .val (.int (3 : Int32)), .val (.int (7 : Int32)), .val (.int (11 : Int32)), .unset]) rfl ?_
    refine XS.iloadN X2.here hx rfl (hb hby d10_5) rfl ?_
    refine XS.iloadN X2.here hx rfl (hb hby d10_6) rfl ?_
    refine XS.iloadN X2.here hx rfl (hb hby d10_7) rfl ?_
    exact Steps.refl _)
  obtain ⟨v4, T4, L4, X4, ⟨N4', rfl, e4⟩, c4'⟩ := own_stat X2 hx hml hZ hown (hw _ (List.mem_of_getElem? (i := 56) rfl)) (hw _ (List.mem_of_getElem? (i := 57) rfl)) (hw _ (List.mem_of_getElem? (i := 4) rfl)) (hw _ (List.mem_of_getElem? (i := 58) rfl)) (by decide) (kc := 0) (ks := 0) (h := h0) (W := 0) (argsL := [(.int (3 : Int32)), (.int (7 : Int32)), (.int (11 : Int32))]) (rest := []) (own_pay (W := 0) (rmCBE4 l Z a0 hw z fm h0 O0 SC hz SF hfm) hZ (hw _ (List.mem_of_getElem? (i := 58) rfl)) (hw _ (List.mem_of_getElem? (i := 4) rfl)) (by decide) (by decide)) c3 rfl rfl (lenOf pd_2 rfl) rfl (by show 2 * 0 + _ ≤ _; exact Nat.le_of_eq rfl) (hb hby d10_8) e2 (by decide) (by decide)
  have N4 := Fr.app N2 N4'
  have c4 : Steps p.tables e below S0 (T4.setTop (mkF m 11 #[.val (.ref x), .val (.int (3 : Int32)), .val (.int (7 : Int32)), .val (.int (11 : Int32)), .unset] [])) := c4'
  have c5 : Steps p.tables e below S0 (T4.setTop (mkF m 28 #[.val (.ref x), .val (.int (3 : Int32)), .val (.int (7 : Int32)), .val (.int (11 : Int32)), .val (.int (4 : Int32))] [(.ref x)])) := c4.trans (by
    refine XS.iloadN X4.here hx rfl (hb hby d10_11) rfl ?_
    refine XS.ifYes X4.here hx rfl (pc0 := 12) (pc' := 22) rfl (hb hby d10_12) rfl ((if0 _ _).trans (feq (by decide : ¬ ((3 : Int32) = (0 : Int32)))).2) (by decide) (by decide) ?_
    refine XS.iloadN X4.here hx rfl (hb hby d10_22) rfl ?_
    refine XS.iloadN X4.here hx rfl (hb hby d10_23) rfl ?_
    refine XS.isub X4.here hx rfl (hb hby d10_24) rfl ?_
    refine XS.istore X4.here hx rfl (hb hby d10_25) rfl (l' := #[.val (.ref x), .val (.int (3 : Int32)), .val (.int (7 : Int32)), .val (.int (11 : Int32)), .val (.int (4 : Int32))]) rfl ?_
    refine XS.aloadN X4.here hx rfl (hb hby d10_27) rfl rfl ?_
    exact Steps.refl _)
  obtain ⟨v6, T6, L6, X6, ⟨N6', rfl, e6⟩, c6'⟩ := own_virt X4 hx hml hZ hown (hw _ (List.mem_of_getElem? (i := 64) rfl)) (hw _ (List.mem_of_getElem? (i := 65) rfl)) (hw _ (List.mem_of_getElem? (i := 67) rfl)) (hw _ (List.mem_of_getElem? (i := 66) rfl)) (hw _ (List.mem_of_getElem? (i := 67) rfl)) (by decide) (kc := 0) (ks := 0) (h := h0) (W := 0) (b := x) (argsL := []) (rest := []) (own_pay (W := 0) (rmIsL l Z a0 hw x z fm h0 O0 Cd SC hz SF hfm) hZ (hw _ (List.mem_of_getElem? (i := 68) rfl)) (hw _ (List.mem_of_getElem? (i := 4) rfl)) (by decide) (by decide)) E c5 rfl rfl (lenOf pd_3 rfl) rfl (by show 2 * 0 + _ ≤ _; exact Nat.le_of_eq rfl) (hb hby d10_28) e4 (by decide) (by decide)
  have N6 := Fr.app N4 N6'
  have c6 : Steps p.tables e below S0 (T6.setTop (mkF m 31 #[.val (.ref x), .val (.int (3 : Int32)), .val (.int (7 : Int32)), .val (.int (11 : Int32)), .val (.int (4 : Int32))] [(.int (1 : Int32))])) := c6'
  have c7 : Steps p.tables e below S0 (T6.setTop (mkF m 35 #[.val (.ref x), .val (.int (3 : Int32)), .val (.int (7 : Int32)), .val (.int (11 : Int32)), .val (.int (4 : Int32))] [(.ref x)])) := c6.trans (by
    refine XS.ifNo X6.here hx rfl (hb hby d10_31) rfl ((if0 _ _).trans (feq (by decide : ¬ ((1 : Int32) = (0 : Int32)))).1) ?_
    refine XS.aloadN X6.here hx rfl (hb hby d10_34) rfl rfl ?_
    exact Steps.refl _)
  obtain ⟨T8, X8, e8, st8⟩ := getF X6 hx hZ hown (host := "") (Or.inl (hw _ (List.mem_of_getElem? (i := 29) rfl))) Via.refl e6 V (g := (mkF m 35 #[.val (.ref x), .val (.int (3 : Int32)), .val (.int (7 : Int32)), .val (.int (11 : Int32)), .val (.int (4 : Int32))] [(.ref x)])) rfl rfl (hb hby d10_35)
  have c8 : Steps p.tables e below S0 (T8.setTop (mkF m 38 #[.val (.ref x), .val (.int (3 : Int32)), .val (.int (7 : Int32)), .val (.int (11 : Int32)), .val (.int (4 : Int32))] [(.ref t)])) := c7.trans (st8 _ (Steps.refl _))
  have c9 : Steps p.tables e below S0 (T8.setTop (mkF m 41 #[.val (.ref x), .val (.int (3 : Int32)), .val (.int (7 : Int32)), .val (.int (11 : Int32)), .val (.int (4 : Int32))] [(.int (4 : Int32)), (.int (3 : Int32)), (.ref t)])) := c8.trans (by
    refine XS.iloadN X8.here hx rfl (hb hby d10_38) rfl ?_
    refine XS.iload X8.here hx rfl (hb hby d10_39) rfl ?_
    exact Steps.refl _)
  obtain ⟨v10, T10, L10, X10, hS10, hZ10, hown10, R10, ⟨N10', x10, t10, kb10, rfl, K10, lo10, E10, V10, Cd10, Kb10⟩, c10'⟩ := own_wstat X8 hx hml hZ hown hS0 hk0 (hw _ (List.mem_of_getElem? (i := 69) rfl)) (hw _ (List.mem_of_getElem? (i := 70) rfl)) (hw _ (List.mem_of_getElem? (i := 71) rfl)) (hw _ (List.mem_of_getElem? (i := 72) rfl)) (by decide) (kc := 6) (ks := 40) (h := h0) (W := 0) (argsL := [(.ref t), (.int (3 : Int32)), (.int (4 : Int32))]) (rest := []) (own_wpay (W := 0) (rmNS4 l Z a0 hw hEL t kb xa xb xc xd h0 O0 K) hZ (hw _ (List.mem_of_getElem? (i := 72) rfl)) (hw _ (List.mem_of_getElem? (i := 71) rfl)) (by decide) (by decide) hEL CR0.1 all0) c9 rfl rfl (lenOf pd_4 rfl) rfl (by show 2 * 0 + _ ≤ _; exact Nat.le_of_eq rfl) (hb hby d10_41) e8 (by decide) (by decide)
  have N10 := Fr.app N6 N10'
  have CR10 := CR0.trans R10
  have c10 : Steps p.tables e below S0 (T10.setTop (mkF m 44 #[.val (.ref x), .val (.int (3 : Int32)), .val (.int (7 : Int32)), .val (.int (11 : Int32)), .val (.int (4 : Int32))] [(.ref x10)])) := c10'
  have c11 : Steps p.tables e below S0 (T10.setTop (mkF m 57 #[.val (.ref x), .val (.int (3 : Int32)), .val (.int (7 : Int32)), .val (.int (11 : Int32)), .val (.int (4 : Int32))] [(.ref x10)])) := c10.trans (by
    refine XS.goto X10.here hx rfl (pc0 := 44) (pc' := 57) rfl (hb hby d10_44) (by decide) (by decide) ?_
    exact Steps.refl _)
  refine ⟨T10, T10.vm, _, (some (.ref x10)), _, _, _, X10, by decide, by decide, (fun q => by cases q), N10, hS10, (Nat.le_refl _), hZ10, CR10, ?_, fun fs hr => ?_⟩
  · skip
    exact ⟨x10, t10, kb10, rfl, ((Keep.refl h0 []).trans K10 all0), E10, V10, Cd10, Kb10⟩
  · exact own_retR X10 hx c11 hret rfl rfl (hb hby d10_57) hr
set_option maxRecDepth 65536 in
set_option maxHeartbeats 40000000 in
theorem rmRN4 (l : Launch) (Z : State) (a0 : Array Value) (hw : ∀ d ∈ tables_1, d.before a0 Z = true) (hEL : EW Z a0 EL) (x t : Addr) (kb : ClassId) (xa xb xc xd : Int32) (z : Int32) (fm : Value) (h0 : Heap) (O0 : Old Z Z.heap.size h0) (E : Exa Z h0 x "java/lang/String") (V : Fld Z h0 x "java/lang/String" "value" "[B" (.ref t)) (Cd : Fld Z h0 x "java/lang/String" "coder" "B" (.int (0 : Int32))) (K : Arv Z h0 t kb .byte (Int32.ofNat ([(82 : Int32), (95 : Int32), (95 : Int32), xa, xb, xc, xd, (46 : Int32), (115 : Int32), (113 : Int32), (108 : Int32)] : List Int32).length) ((([(82 : Int32), (95 : Int32), (95 : Int32), xa, xb, xc, xd, (46 : Int32), (115 : Int32), (113 : Int32), (108 : Int32)] : List Int32).map (fun c : Int32 => c.toInt8.toInt32)).map Value.int) (.int (0 : Int32))) (hxa : own_B xa) (hxb : own_B xb) (hxc : own_B xc) (hxd : own_B xd) (SC : Sta Z Z.heap "java/lang/String" "COMPACT_STRINGS" "Z" (.int z)) (hz : ¬ z = 0) (SF : Sta Z Z.heap "jdk/internal/util/Preconditions" "SIOOBE_FORMATTER" "Ljava/util/function/BiFunction;" fm) (hfm : fm.isRef = true) :
    own_WC l Z EL (⟨"com/example/cambio/cambio/io/MigrationFolder", "repeatableName", "(Ljava/lang/String;)Ljava/lang/String;"⟩ : MethodName) prog_23_method_6_code 1 (some (.object "java/lang/String")) ({ frames := 6, cells := 10, slots := 100, locals := 150 } : Room) #[(.ref x)] h0 [] (fun v h => (∃ (x t : Addr) (kb : ClassId), v = some (.ref x) ∧ Keep h0 h [] ∧ Exa Z h x "java/lang/String" ∧ Fld Z h x "java/lang/String" "value" "[B" (.ref t) ∧ Fld Z h x "java/lang/String" "coder" "B" (.int (0 : Int32)) ∧ Arv Z h t kb .byte (Int32.ofNat ([xa, xb, xc, xd] : List Int32).length) ((([xa, xb, xc, xd] : List Int32).map (fun c : Int32 => c.toInt8.toInt32)).map Value.int) (.int (0 : Int32)))) := by
  refine own_wc (plainFor_of_name (by first | (simp [plainName, overriddenIn]; done) | decide +kernel)) hEL ?_
  intro p e s m below meth c s₁ S0 X0 hx hby hml hret hnm hown hZ e0 hS0 CR0 hsf cc
  have N0 := Fr.nil Z.heap.size
  have hk0 : 0 ≤ h0.size := Nat.zero_le _
  have hstr : ∀ d ∈ Bundle.stringAtoms, d.before a0 Z = true := fun d hd => hw d (own_strA d hd)
  have c0 : Steps p.tables e below S0 (s₁.setTop (mkF m 0 #[.val (.ref x)] [])) := cc.trans (XT.entry rfl)
  have c1 : Steps p.tables e below S0 (s₁.setTop (mkF m 1 #[.val (.ref x)] [(.ref x)])) := c0.trans (by
    refine XS.aloadN X0.here hx rfl (hb hby d7_0) rfl rfl ?_
    exact Steps.refl _)
  obtain ⟨la_2, T2, h2, kn2, lb_2, lk2, X2, e2, E2, hS2, hk2, hZ2, hown2, Ea2, Ca2, Va2, Kb2, la2, lb2, R2, Lt2, ne2, st2⟩ := ldcCH X0 hx hZ hown (hw _ (List.mem_of_getElem? (i := 38) rfl)) hstr e0 hS0 hk0 hEL (by decide) CR0.1 (vs := [(.int (82 : Int32)), (.int (95 : Int32)), (.int (95 : Int32))]) (z := (3 : Int32)) ⟨by decide, by decide⟩ (by decide) (by decide) (g := (mkF m 1 #[.val (.ref x)] [(.ref x)])) rfl (hb hby d7_1) (n := 12) (by decide) (by decide) (by decide) (by decide)
  have CR2 := CR0.trans R2
  have c2 : Steps p.tables e below S0 (T2.setTop (mkF m 3 #[.val (.ref x)] [(.ref la_2), (.ref x)])) := c1.trans (st2 _ (Steps.refl _))
  obtain ⟨v3, T3, L3, X3, ⟨rfl, rfl, e3⟩, c3'⟩ := own_virt X2 hx hml hZ2 hown2 (hw _ (List.mem_of_getElem? (i := 39) rfl)) (hw _ (List.mem_of_getElem? (i := 40) rfl)) (hw _ (List.mem_of_getElem? (i := 42) rfl)) (hw _ (List.mem_of_getElem? (i := 41) rfl)) (hw _ (List.mem_of_getElem? (i := 42) rfl)) (by decide) (Q := fun v h' L => v = some (.int (Int32.ofNat ([(82 : Int32), (95 : Int32), (95 : Int32)] : List Int32).length)) ∧ L = [] ∧ h' = h2) (kc := 0) (ks := 0) (h := h2) (W := 1) (b := la_2) (argsL := []) (rest := [(.ref x)]) (StrChars.Road.lenW (s := (s.setVm T2.vm)) (R := ({ frames := 6, cells := 10, slots := 100, locals := 150 } : Room)) (W := 1) hZ2 (own_wl hw) (kI := 4) (hw _ (List.mem_of_getElem? (i := 3) rfl)) (cs := [(82 : Int32), (95 : Int32), (95 : Int32)]) Ea2 Va2 Ca2 Kb2 (StrChars.Road.codOf (n := ([(82 : Int32), (95 : Int32), (95 : Int32)] : List Int32).length) rfl (fun c hc => ((own_cons (own_Bl 82 (by decide)) (own_cons (own_Bl 95 (by decide)) (own_cons (own_Bl 95 (by decide)) own_nil))) c hc).rng.2)) (fun c hc => ((own_cons (own_Bl 82 (by decide)) (own_cons (own_Bl 95 (by decide)) (own_cons (own_Bl 95 (by decide)) own_nil))) c hc).rng2) (SC.ext (O0.ext E2).2) hz (Nat.le_of_ble_eq_true rfl) (by decide) (by decide)) Ea2 c2 rfl rfl (lenOf pd_1 rfl) rfl (by show 2 * 0 + _ ≤ _; exact Nat.le_of_eq rfl) (hb hby d7_3) e2 (by decide) (by decide)
  have N3 := Fr.app N0 (Fr.nil _)
  have c3 : Steps p.tables e below S0 (T3.setTop (mkF m 6 #[.val (.ref x)] [(.int (3 : Int32)), (.ref x)])) := c3'
  have c4 : Steps p.tables e below S0 (T3.setTop (mkF m 7 #[.val (.ref x)] [(.ref x), (.int (3 : Int32)), (.ref x)])) := c3.trans (by
    refine XS.aloadN X3.here hx rfl (hb hby d7_6) rfl rfl ?_
    exact Steps.refl _)
  obtain ⟨v5, T5, L5, X5, ⟨rfl, rfl, e5⟩, c5'⟩ := own_virt X3 hx hml hZ2 hown2 (hw _ (List.mem_of_getElem? (i := 39) rfl)) (hw _ (List.mem_of_getElem? (i := 40) rfl)) (hw _ (List.mem_of_getElem? (i := 42) rfl)) (hw _ (List.mem_of_getElem? (i := 41) rfl)) (hw _ (List.mem_of_getElem? (i := 42) rfl)) (by decide) (Q := fun v h' L => v = some (.int (Int32.ofNat ([(82 : Int32), (95 : Int32), (95 : Int32), xa, xb, xc, xd, (46 : Int32), (115 : Int32), (113 : Int32), (108 : Int32)] : List Int32).length)) ∧ L = [] ∧ h' = h2) (kc := 0) (ks := 0) (h := h2) (W := 2) (b := x) (argsL := []) (rest := [(.int (3 : Int32)), (.ref x)]) (StrChars.Road.lenW (s := (s.setVm T2.vm)) (R := ({ frames := 6, cells := 10, slots := 100, locals := 150 } : Room)) (W := 2) hZ2 (own_wl hw) (kI := 4) (hw _ (List.mem_of_getElem? (i := 3) rfl)) (cs := [(82 : Int32), (95 : Int32), (95 : Int32), xa, xb, xc, xd, (46 : Int32), (115 : Int32), (113 : Int32), (108 : Int32)]) (E.ext E2) (V.ext E2) (Cd.ext E2) (K.ext E2) (StrChars.Road.codOf (n := ([(82 : Int32), (95 : Int32), (95 : Int32), xa, xb, xc, xd, (46 : Int32), (115 : Int32), (113 : Int32), (108 : Int32)] : List Int32).length) rfl (fun c hc => ((own_cons (own_Bl 82 (by decide)) (own_cons (own_Bl 95 (by decide)) (own_cons (own_Bl 95 (by decide)) (own_cons hxa (own_cons hxb (own_cons hxc (own_cons hxd (own_cons (own_Bl 46 (by decide)) (own_cons (own_Bl 115 (by decide)) (own_cons (own_Bl 113 (by decide)) (own_cons (own_Bl 108 (by decide)) own_nil))))))))))) c hc).rng.2)) (fun c hc => ((own_cons (own_Bl 82 (by decide)) (own_cons (own_Bl 95 (by decide)) (own_cons (own_Bl 95 (by decide)) (own_cons hxa (own_cons hxb (own_cons hxc (own_cons hxd (own_cons (own_Bl 46 (by decide)) (own_cons (own_Bl 115 (by decide)) (own_cons (own_Bl 113 (by decide)) (own_cons (own_Bl 108 (by decide)) own_nil))))))))))) c hc).rng2) (SC.ext (O0.ext E2).2) hz (Nat.le_of_ble_eq_true rfl) (by decide) (by decide)) (E.ext E2) c4 rfl rfl (lenOf pd_1 rfl) rfl (by show 2 * 0 + _ ≤ _; exact Nat.le_of_eq rfl) (hb hby d7_7) e3 (by decide) (by decide)
  have N5 := Fr.app N3 (Fr.nil _)
  have c5 : Steps p.tables e below S0 (T5.setTop (mkF m 10 #[.val (.ref x)] [(.int (11 : Int32)), (.int (3 : Int32)), (.ref x)])) := c5'
  obtain ⟨la_6, T6, h6, kn6, lb_6, lk6, X6, e6, E6, hS6, hk6, hZ6, hown6, Ea6, Ca6, Va6, Kb6, la6, lb6, R6, Lt6, ne6, st6⟩ := ldcCH X5 hx hZ2 hown2 (hw _ (List.mem_of_getElem? (i := 49) rfl)) hstr e5 hS2 hk2 hEL (by decide) CR2.1 (vs := [(.int (46 : Int32)), (.int (115 : Int32)), (.int (113 : Int32)), (.int (108 : Int32))]) (z := (4 : Int32)) ⟨by decide, by decide⟩ (by decide) (by decide) (g := (mkF m 10 #[.val (.ref x)] [(.int (11 : Int32)), (.int (3 : Int32)), (.ref x)])) rfl (hb hby d7_10) (n := 16) (by decide) (by decide) (by decide) (by decide)
  have CR6 := CR2.trans R6
  have c6 : Steps p.tables e below S0 (T6.setTop (mkF m 12 #[.val (.ref x)] [(.ref la_6), (.int (11 : Int32)), (.int (3 : Int32)), (.ref x)])) := c5.trans (st6 _ (Steps.refl _))
  obtain ⟨v7, T7, L7, X7, ⟨rfl, rfl, e7⟩, c7'⟩ := own_virt X6 hx hml hZ6 hown6 (hw _ (List.mem_of_getElem? (i := 39) rfl)) (hw _ (List.mem_of_getElem? (i := 40) rfl)) (hw _ (List.mem_of_getElem? (i := 42) rfl)) (hw _ (List.mem_of_getElem? (i := 41) rfl)) (hw _ (List.mem_of_getElem? (i := 42) rfl)) (by decide) (Q := fun v h' L => v = some (.int (Int32.ofNat ([(46 : Int32), (115 : Int32), (113 : Int32), (108 : Int32)] : List Int32).length)) ∧ L = [] ∧ h' = h6) (kc := 0) (ks := 0) (h := h6) (W := 3) (b := la_6) (argsL := []) (rest := [(.int (11 : Int32)), (.int (3 : Int32)), (.ref x)]) (StrChars.Road.lenW (s := (s.setVm T6.vm)) (R := ({ frames := 6, cells := 10, slots := 100, locals := 150 } : Room)) (W := 3) hZ6 (own_wl hw) (kI := 4) (hw _ (List.mem_of_getElem? (i := 3) rfl)) (cs := [(46 : Int32), (115 : Int32), (113 : Int32), (108 : Int32)]) Ea6 Va6 Ca6 Kb6 (StrChars.Road.codOf (n := ([(46 : Int32), (115 : Int32), (113 : Int32), (108 : Int32)] : List Int32).length) rfl (fun c hc => ((own_cons (own_Bl 46 (by decide)) (own_cons (own_Bl 115 (by decide)) (own_cons (own_Bl 113 (by decide)) (own_cons (own_Bl 108 (by decide)) own_nil)))) c hc).rng.2)) (fun c hc => ((own_cons (own_Bl 46 (by decide)) (own_cons (own_Bl 115 (by decide)) (own_cons (own_Bl 113 (by decide)) (own_cons (own_Bl 108 (by decide)) own_nil)))) c hc).rng2) (SC.ext ((O0.ext E2).ext E6).2) hz (Nat.le_of_ble_eq_true rfl) (by decide) (by decide)) Ea6 c6 rfl rfl (lenOf pd_1 rfl) rfl (by show 2 * 0 + _ ≤ _; exact Nat.le_of_eq rfl) (hb hby d7_12) e6 (by decide) (by decide)
  have N7 := Fr.app N5 (Fr.nil _)
  have c7 : Steps p.tables e below S0 (T7.setTop (mkF m 15 #[.val (.ref x)] [(.int (4 : Int32)), (.int (11 : Int32)), (.int (3 : Int32)), (.ref x)])) := c7'
  have c8 : Steps p.tables e below S0 (T7.setTop (mkF m 16 #[.val (.ref x)] [(.int (7 : Int32)), (.int (3 : Int32)), (.ref x)])) := c7.trans (by
    refine XS.isub X7.here hx rfl (hb hby d7_15) rfl ?_
    exact Steps.refl _)
  obtain ⟨v9, T9, L9, X9, hS9, hZ9, hown9, R9, ⟨N9', x9, t9, kb9, rfl, K9, E9, V9, Cd9, Kb9⟩, c9'⟩ := own_wvirt X7 hx hml hZ6 hown6 hS6 hk6 (hw _ (List.mem_of_getElem? (i := 50) rfl)) (hw _ (List.mem_of_getElem? (i := 51) rfl)) (hw _ (List.mem_of_getElem? (i := 53) rfl)) (hw _ (List.mem_of_getElem? (i := 52) rfl)) (hw _ (List.mem_of_getElem? (i := 53) rfl)) (by decide) (kc := 6) (ks := 40) (h := h6) (W := 0) (b := x) (argsL := [(.int (3 : Int32)), (.int (7 : Int32))]) (rest := []) (own_wpay (W := 0) (rmSub4 l Z a0 hw hEL x t kb xa xb xc xd z fm h6 ((O0.ext E2).ext E6) ((E.ext E2).ext E6) ((V.ext E2).ext E6) ((Cd.ext E2).ext E6) ((K.ext E2).ext E6) hxa hxb hxc hxd SC hz SF hfm) hZ6 (hw _ (List.mem_of_getElem? (i := 54) rfl)) (hw _ (List.mem_of_getElem? (i := 4) rfl)) (by decide) (by decide) hEL CR6.1 all0) ((E.ext E2).ext E6) c8 rfl rfl (lenOf pd_5 rfl) rfl (by show 2 * 0 + _ ≤ _; exact Nat.le_of_eq rfl) (hb hby d7_16) e7 (by decide) (by decide)
  have N9 := Fr.app N7 N9'
  have CR9 := CR6.trans R9
  have c9 : Steps p.tables e below S0 (T9.setTop (mkF m 19 #[.val (.ref x)] [(.ref x9)])) := c9'
  refine ⟨T9, T9.vm, _, (some (.ref x9)), _, _, _, X9, by decide, by decide, (fun q => by cases q), N9, hS9, (Nat.le_refl _), hZ9, CR9, ?_, fun fs hr => ?_⟩
  · skip
    exact ⟨x9, t9, kb9, rfl, ((((Keep.refl h0 []).ext E2).ext E6).trans K9 all0), E9, V9, Cd9, Kb9⟩
  · exact own_retR X9 hx c9 hret rfl rfl (hb hby d7_19) hr
set_option maxRecDepth 65536 in
set_option maxHeartbeats 40000000 in
theorem rmI4 (l : Launch) (Z : State) (a0 : Array Value) (hw : ∀ d ∈ tables_1, d.before a0 Z = true) (hEL : EW Z a0 EL) (x b : Addr) (u1 u2 : Value) (h0 : Heap) (O0 : Old Z Z.heap.size h0) (E : Exa Z h0 x "java/lang/String") (V : Fld Z h0 x "java/lang/String" "value" "[B" u1) (Cd : Fld Z h0 x "java/lang/String" "coder" "B" u2) (gx : Z.heap.size ≤ x) :
    own_WC l Z EL (⟨"java/lang/String", "<init>", "([CIILjava/lang/Void;)V"⟩ : MethodName) jdk_42_method_149_code 6 none ({ frames := 1, cells := 4, slots := 8, locals := 12 } : Room) #[(.ref x), (.ref b), (.int (0 : Int32)), (.int (0 : Int32)), .null] h0 [x] (fun v h => v = none ∧ Keep h0 h [x] ∧ Exa Z h x "java/lang/String" ∧ Fld Z h x "java/lang/String" "coder" "B" (.int (0 : Int32)) ∧ ∃ (t : Addr) (kt : ClassId), Fld Z h x "java/lang/String" "value" "[B" (.ref t) ∧ Arv Z h t kt .byte (0 : Int32) [] (.int (0 : Int32))) := by
  refine own_wc (plainFor_of_name (by first | (simp [plainName, overriddenIn]; done) | decide +kernel)) hEL ?_
  intro p e s m below meth c s₁ S0 X0 hx hby hml hret hnm hown hZ e0 hS0 CR0 hsf cc
  have N0 := Fr.nil Z.heap.size
  have hk0 : 0 ≤ h0.size := Nat.zero_le _
  have hstr : ∀ d ∈ Bundle.stringAtoms, d.before a0 Z = true := fun d hd => hw d (own_strA d hd)
  have c0 : Steps p.tables e below S0 (s₁.setTop (mkF m 0 #[.val (.ref x), .val (.ref b), .val (.int (0 : Int32)), .val (.int (0 : Int32)), .val .null, .unset] [])) := cc.trans (XT.entry rfl)
  have c1 : Steps p.tables e below S0 (s₁.setTop (mkF m 1 #[.val (.ref x), .val (.ref b), .val (.int (0 : Int32)), .val (.int (0 : Int32)), .val .null, .unset] [(.ref x)])) := c0.trans (by
    refine XS.aloadN X0.here hx rfl (hb hby d2_0) rfl rfl ?_
    exact Steps.refl _)
  obtain ⟨T2, X2, e2, st2⟩ := initO X0 hx hZ hown (hw _ (List.mem_of_getElem? (i := 12) rfl)) (hw _ (List.mem_of_getElem? (i := 13) rfl)) (hw _ (List.mem_of_getElem? (i := 14) rfl)) e0 (g := (mkF m 1 #[.val (.ref x), .val (.ref b), .val (.int (0 : Int32)), .val (.int (0 : Int32)), .val .null, .unset] [(.ref x)])) rfl (by rw [hml]; rfl) rfl (hb hby d2_1) (by decide) (W := 0) (by show 2 * 0 + _ ≤ _; exact Nat.le_of_eq rfl) (by decide)
  have c2 : Steps p.tables e below S0 (T2.setTop (mkF m 4 #[.val (.ref x), .val (.ref b), .val (.int (0 : Int32)), .val (.int (0 : Int32)), .val .null, .unset] [])) := c1.trans (st2 _ (Steps.refl _))
  have c3 : Steps p.tables e below S0 (T2.setTop (mkF m 9 #[.val (.ref x), .val (.ref b), .val (.int (0 : Int32)), .val (.int (0 : Int32)), .val .null, .unset] [(.ref x)])) := c2.trans (by
    refine XS.iloadN X2.here hx rfl (hb hby d2_4) rfl ?_
    refine XS.ifNo X2.here hx rfl (hb hby d2_5) rfl ((if0 _ _).trans (teq (by decide : (0 : Int32) = (0 : Int32))).2) ?_
    refine XS.aloadN X2.here hx rfl (hb hby d2_8) rfl rfl ?_
    exact Steps.refl _)
  obtain ⟨la_4, T4, h4, kn4, lb_4, lk4, X4, e4, E4, hS4, hk4, hZ4, hown4, Ea4, Ca4, Va4, Kb4, la4, lb4, R4, Lt4, ne4, st4⟩ := ldcCH X2 hx hZ hown (hw _ (List.mem_of_getElem? (i := 31) rfl)) hstr e2 hS0 hk0 hEL (by decide) CR0.1 (vs := []) (z := (0 : Int32)) ⟨by decide, by decide⟩ (by decide) (by decide) (g := (mkF m 9 #[.val (.ref x), .val (.ref b), .val (.int (0 : Int32)), .val (.int (0 : Int32)), .val .null, .unset] [(.ref x)])) rfl (hb hby d2_9) (n := 0) (by decide) (by decide) (by decide) (by decide)
  have CR4 := CR0.trans R4
  have c4 : Steps p.tables e below S0 (T4.setTop (mkF m 11 #[.val (.ref x), .val (.ref b), .val (.int (0 : Int32)), .val (.int (0 : Int32)), .val .null, .unset] [(.ref la_4), (.ref x)])) := c3.trans (st4 _ (Steps.refl _))
  obtain ⟨T5, X5, e5, st5⟩ := getF X4 hx hZ4 hown4 (host := "") (Or.inl (hw _ (List.mem_of_getElem? (i := 29) rfl))) Via.refl e4 Va4 (g := (mkF m 11 #[.val (.ref x), .val (.ref b), .val (.int (0 : Int32)), .val (.int (0 : Int32)), .val .null, .unset] [(.ref la_4), (.ref x)])) rfl rfl (hb hby d2_11)
  have c5 : Steps p.tables e below S0 (T5.setTop (mkF m 14 #[.val (.ref x), .val (.ref b), .val (.int (0 : Int32)), .val (.int (0 : Int32)), .val .null, .unset] [(.ref lb_4), (.ref x)])) := c4.trans (st5 _ (Steps.refl _))
  obtain ⟨T6, h6, X6, e6, W6, st6⟩ := putF X5 hx hZ4 hown4 (host := "") (Or.inl (hw _ (List.mem_of_getElem? (i := 29) rfl))) Via.refl e5 (V.ext E4) (E.ext E4) (Or.inr ⟨(hw _ (List.mem_of_getElem? (i := 30) rfl)), rfl, hnm⟩) (hw _ (List.mem_of_getElem? (i := 3) rfl)) (ty := (.array .byte)) (by decide) rfl rfl (g := (mkF m 14 #[.val (.ref x), .val (.ref b), .val (.int (0 : Int32)), .val (.int (0 : Int32)), .val .null, .unset] [(.ref lb_4), (.ref x)])) rfl rfl (hb hby d2_14)
  have N6 := Fr.snoc X6 N0 gx
  have Fw6 := (V.ext E4).same W6
  have R6 := CHr.wr W6 (R4.safe E.lt (hsf x (List.mem_cons_self ..))) CR4.1
  have CR6 := CR4.trans R6
  have hk6 := Nat.le_trans hk4 R6.2.1
  have c6 : Steps p.tables e below S0 (T6.setTop (mkF m 17 #[.val (.ref x), .val (.ref b), .val (.int (0 : Int32)), .val (.int (0 : Int32)), .val .null, .unset] [])) := c5.trans (st6 _ (Steps.refl _))
  have c7 : Steps p.tables e below S0 (T6.setTop (mkF m 18 #[.val (.ref x), .val (.ref b), .val (.int (0 : Int32)), .val (.int (0 : Int32)), .val .null, .unset] [(.ref x)])) := c6.trans (by
    refine XS.aloadN X6.here hx rfl (hb hby d2_17) rfl rfl ?_
    exact Steps.refl _)
  obtain ⟨la_8, T8, h8, kn8, lb_8, lk8, X8, e8, E8, hS8, hk8, hZ8, hown8, Ea8, Ca8, Va8, Kb8, la8, lb8, R8, Lt8, ne8, st8⟩ := ldcCH X6 hx hZ4 hown4 (hw _ (List.mem_of_getElem? (i := 31) rfl)) hstr e6 hS4 hk6 hEL (by decide) CR6.1 (vs := []) (z := (0 : Int32)) ⟨by decide, by decide⟩ (by decide) (by decide) (g := (mkF m 18 #[.val (.ref x), .val (.ref b), .val (.int (0 : Int32)), .val (.int (0 : Int32)), .val .null, .unset] [(.ref x)])) rfl (hb hby d2_18) (n := 0) (by decide) (by decide) (by decide) (by decide)
  have CR8 := CR6.trans R8
  have c8 : Steps p.tables e below S0 (T8.setTop (mkF m 20 #[.val (.ref x), .val (.ref b), .val (.int (0 : Int32)), .val (.int (0 : Int32)), .val .null, .unset] [(.ref la_8), (.ref x)])) := c7.trans (st8 _ (Steps.refl _))
  obtain ⟨T9, X9, e9, st9⟩ := getF X8 hx hZ8 hown8 (host := "") (Or.inl (hw _ (List.mem_of_getElem? (i := 27) rfl))) Via.refl e8 Ca8 (g := (mkF m 20 #[.val (.ref x), .val (.ref b), .val (.int (0 : Int32)), .val (.int (0 : Int32)), .val .null, .unset] [(.ref la_8), (.ref x)])) rfl rfl (hb hby d2_20)
  have c9 : Steps p.tables e below S0 (T9.setTop (mkF m 23 #[.val (.ref x), .val (.ref b), .val (.int (0 : Int32)), .val (.int (0 : Int32)), .val .null, .unset] [(.int (0 : Int32)), (.ref x)])) := c8.trans (st9 _ (Steps.refl _))
  obtain ⟨T10, h10, X10, e10, W10, st10⟩ := putFN X9 hx hZ8 hown8 (hw _ (List.mem_of_getElem? (i := 27) rfl)) Via.refl e9 (((Cd.ext E4).other W6 (Or.inr (slot_ne (Or.inr (hw _ (List.mem_of_getElem? (i := 28) rfl))) (Or.inr (hw _ (List.mem_of_getElem? (i := 30) rfl))) (by decide) (t := .byte) (t' := (.array .byte)) (by decide) (by decide)))).ext E8) (((E.ext E4).wr W6).ext E8) (Or.inr ⟨(hw _ (List.mem_of_getElem? (i := 28) rfl)), rfl, hnm⟩) (hw _ (List.mem_of_getElem? (i := 3) rfl)) (ty := .byte) (v' := (.int (0 : Int32))) (by decide) rfl rfl (g := (mkF m 23 #[.val (.ref x), .val (.ref b), .val (.int (0 : Int32)), .val (.int (0 : Int32)), .val .null, .unset] [(.int (0 : Int32)), (.ref x)])) rfl rfl (hb hby d2_23)
  have N10 := Fr.snoc X10 N6 gx
  have Fw10 := (((Cd.ext E4).other W6 (Or.inr (slot_ne (Or.inr (hw _ (List.mem_of_getElem? (i := 28) rfl))) (Or.inr (hw _ (List.mem_of_getElem? (i := 30) rfl))) (by decide) (t := .byte) (t' := (.array .byte)) (by decide) (by decide)))).ext E8).same W10
  have R10 := CHr.wr W10 (((R4.trans R6).trans R8).safe E.lt (hsf x (List.mem_cons_self ..))) CR8.1
  have CR10 := CR8.trans R10
  have hk10 := Nat.le_trans hk8 R10.2.1
  have c10 : Steps p.tables e below S0 (T10.setTop (mkF m 26 #[.val (.ref x), .val (.ref b), .val (.int (0 : Int32)), .val (.int (0 : Int32)), .val .null, .unset] [])) := c9.trans (st10 _ (Steps.refl _))
  refine ⟨T10, T8.vm, _, none, _, _, _, X10, by decide, by decide, (fun _ => rfl), N10, hS8, by rw [e10]; exact hk10, hZ8, by rw [e10]; exact CR10, ?_, fun fs hr => ?_⟩
  · rw [e10]
    exact ⟨rfl, (((((Keep.refl h0 [x]).ext E4).wr W6 (Or.inl (List.mem_of_getElem? (i := 0) rfl))).ext E8).wr W10 (Or.inl (List.mem_of_getElem? (i := 0) rfl))), ((((E.ext E4).wr W6).ext E8).wr W10), Fw10, lb_4, lk4, ((Fw6.ext E8).other W10 (Or.inr (slot_ne (Or.inr (hw _ (List.mem_of_getElem? (i := 30) rfl))) (Or.inr (hw _ (List.mem_of_getElem? (i := 28) rfl))) (by decide) (t := (.array .byte)) (t' := .byte) (by decide) (by decide)))), (((Kb4.other W6 (Ne.symm (ne4 x (R4.safe E.lt (hsf x (List.mem_cons_self ..)))).2)).ext E8).other W10 (Ne.symm (ne4 x (R4.safe E.lt (hsf x (List.mem_cons_self ..)))).2))⟩
  · exact c10.trans (X10.returnOut hx hret (hb hby d2_26) hr)
set_option maxRecDepth 65536 in
set_option maxHeartbeats 40000000 in
theorem rmI1 (l : Launch) (Z : State) (a0 : Array Value) (hw : ∀ d ∈ tables_1, d.before a0 Z = true) (hEL : EW Z a0 EL) (x b : Addr) (kc : ClassId) (u1 u2 : Value) (h0 : Heap) (O0 : Old Z Z.heap.size h0) (E : Exa Z h0 x "java/lang/String") (V : Fld Z h0 x "java/lang/String" "value" "[B" u1) (Cd : Fld Z h0 x "java/lang/String" "coder" "B" u2) (gx : Z.heap.size ≤ x) (Kc : Arv Z h0 b kc .char (0 : Int32) [] (.int (0 : Int32))) :
    own_WC l Z EL (⟨"java/lang/String", "<init>", "([C)V"⟩ : MethodName) jdk_42_method_3_code 2 none ({ frames := 2, cells := 4, slots := 8, locals := 30 } : Room) #[(.ref x), (.ref b)] h0 [x] (fun v h => v = none ∧ Keep h0 h [x] ∧ Exa Z h x "java/lang/String" ∧ Fld Z h x "java/lang/String" "coder" "B" (.int (0 : Int32)) ∧ ∃ (t : Addr) (kt : ClassId), Fld Z h x "java/lang/String" "value" "[B" (.ref t) ∧ Arv Z h t kt .byte (0 : Int32) [] (.int (0 : Int32))) := by
  refine own_wc (plainFor_of_name (by first | (simp [plainName, overriddenIn]; done) | decide +kernel)) hEL ?_
  intro p e s m below meth c s₁ S0 X0 hx hby hml hret hnm hown hZ e0 hS0 CR0 hsf cc
  have N0 := Fr.nil Z.heap.size
  have hk0 : 0 ≤ h0.size := Nat.zero_le _
  have hstr : ∀ d ∈ Bundle.stringAtoms, d.before a0 Z = true := fun d hd => hw d (own_strA d hd)
  have c0 : Steps p.tables e below S0 (s₁.setTop (mkF m 0 #[.val (.ref x), .val (.ref b)] [])) := cc.trans (XT.entry rfl)
  have c1 : Steps p.tables e below S0 (s₁.setTop (mkF m 4 #[.val (.ref x), .val (.ref b)] [(.ref b), (.int (0 : Int32)), (.ref b), (.ref x)])) := c0.trans (by
    refine XS.aloadN X0.here hx rfl (hb hby d1_0) rfl rfl ?_
    refine XS.aloadN X0.here hx rfl (hb hby d1_1) rfl rfl ?_
    refine XS.iconst X0.here hx rfl (hb hby d1_2) ?_
    refine XS.aloadN X0.here hx rfl (hb hby d1_3) rfl rfl ?_
    exact Steps.refl _)
  obtain ⟨cl2, Ar2, q2, S2, M2, H2, G2⟩ := id Kc
  have c2 : Steps p.tables e below S0 (s₁.setTop (mkF m 5 #[.val (.ref x), .val (.ref b)] [(.int (0 : Int32)), (.int (0 : Int32)), (.ref b), (.ref x)])) := c1.trans (by
    refine X0.arraylength hx (by rw [show s₁.heap = h0 from e0]; exact Ar2.1) (State.isArrayOf_alike (hZ).alike Ar2.2.1) (g := (mkF m 4 #[.val (.ref x), .val (.ref b)] [(.ref b), (.int (0 : Int32)), (.ref b), (.ref x)])) rfl rfl (hb hby d1_4) _ ?_
    rw [len_of S2 M2]
    exact Steps.refl _)
  have c3 : Steps p.tables e below S0 (s₁.setTop (mkF m 6 #[.val (.ref x), .val (.ref b)] [.null, (.int (0 : Int32)), (.int (0 : Int32)), (.ref b), (.ref x)])) := c2.trans (by
    refine XS.aconstNull X0.here hx rfl (hb hby d1_5) ?_
    exact Steps.refl _)
  obtain ⟨v4, T4, L4, X4, hS4, hZ4, hown4, R4, ⟨N4', rfl, K4, E4, Cd4, t4, kt4, V4, Kt4⟩, c4'⟩ := own_wspec X0 hx hml hZ hown hS0 hk0 rfl (hw _ (List.mem_of_getElem? (i := 8) rfl)) (hw _ (List.mem_of_getElem? (i := 9) rfl)) (hw _ (List.mem_of_getElem? (i := 11) rfl)) (by decide) (kc := 4) (ks := 8) (h := h0) (W := 0) (b := x) (argsL := [(.ref b), (.int (0 : Int32)), (.int (0 : Int32)), .null]) (rest := []) (own_wpay (W := 0) (rmI4 l Z a0 hw hEL x b u1 u2 h0 O0 E V Cd gx) hZ (hw _ (List.mem_of_getElem? (i := 11) rfl)) (hw _ (List.mem_of_getElem? (i := 4) rfl)) (by decide) (by decide) hEL CR0.1 (allS ⟨E.lt, (hsf x (List.mem_cons_self ..))⟩ all0)) c3 rfl rfl (lenOf pd_11 rfl) rfl (by show 2 * 0 + _ ≤ _; exact Nat.le_of_eq rfl) (hb hby d1_6) e0 (by decide) (by decide)
  have N4 := Fr.app N0 N4'
  have CR4 := CR0.trans R4
  have c4 : Steps p.tables e below S0 (T4.setTop (mkF m 9 #[.val (.ref x), .val (.ref b)] [])) := c4'
  refine ⟨T4, T4.vm, _, none, _, _, _, X4, by decide, by decide, (fun _ => rfl), N4, hS4, (Nat.le_refl _), hZ4, CR4, ?_, fun fs hr => ?_⟩
  · skip
    exact ⟨rfl, K4, E4, Cd4, t4, kt4, V4, Kt4⟩
  · exact c4.trans (X4.returnOut hx hret (hb hby d1_9) hr)
set_option maxRecDepth 65536 in
set_option maxHeartbeats 40000000 in
theorem rm0 (l : Launch) (Z : State) (a0 : Array Value) (hw : ∀ d ∈ tables_1, d.before a0 Z = true) (hEL : EW Z a0 EL) (p0 p1 : Int32) (z : Int32) (fm : Value) (h0 : Heap) (O0 : Old Z Z.heap.size h0) (SC : Sta Z Z.heap "java/lang/String" "COMPACT_STRINGS" "Z" (.int z)) (hz : ¬ z = 0) (SF : Sta Z Z.heap "jdk/internal/util/Preconditions" "SIOOBE_FORMATTER" "Ljava/util/function/BiFunction;" fm) (hfm : fm.isRef = true) :
    own_WW l Z EL x code maxLocals ret room_1 #[(.int p0), (.int p1)] h0 [] (fun v h => v = some (.int (1 : Int32))) := by
  intro p e s m below meth c s₁ S0 X0 hx hby hml hret hnm hown hZ e0 hS0 CR0 hsf cc
  have N0 := Fr.nil Z.heap.size
  have hk0 : 0 ≤ h0.size := Nat.zero_le _
  have hstr : ∀ d ∈ Bundle.stringAtoms, d.before a0 Z = true := fun d hd => hw d (own_strA d hd)
  have c0 : Steps p.tables e below S0 (s₁.setTop (mkF m 0 #[.val (.int p0), .val (.int p1), .unset, .unset, .unset, .unset, .unset, .unset, .unset, .unset, .unset, .unset] [])) := cc.trans (XT.entry rfl)
  have c1 : Steps p.tables e below S0 (s₁.setTop (mkF m 1 #[.val (.int p0), .val (.int p1), .unset, .unset, .unset, .unset, .unset, .unset, .unset, .unset, .unset, .unset] [(.int p0)])) := c0.trans (by
    refine XS.iloadN X0.here hx rfl (hb hby at_0) rfl ?_
    exact Steps.refl _)
  have c2 : Steps p.tables e below S0 (s₁.setTop (mkF m 3 #[.val (.int p0), .val (.int p1), .unset, .unset, .unset, .unset, .unset, .unset, .unset, .unset, .unset, .unset] [(.int (2147483647 : Int32)), (.int p0)])) := c1.trans (by
    refine X0.ldcInt hx hown (mvT hZ (hw _ (List.mem_of_getElem? (i := 0) rfl))) (g := (mkF m 1 #[.val (.int p0), .val (.int p1), .unset, .unset, .unset, .unset, .unset, .unset, .unset, .unset, .unset, .unset] [(.int p0)])) rfl (hb hby at_1) _ ?_
    exact Steps.refl _)
  have c3 : Steps p.tables e below S0 (s₁.setTop (mkF m 6 #[.val (.int p0), .val (.int p1), .unset, .unset, .unset, .unset, .unset, .unset, .unset, .unset, .unset, .unset] [(.int ((p0 &&& (2147483647 : Int32)) % (5 : Int32)))])) := c2.trans (by
    refine XS.iand X0.here hx rfl (hb hby at_3) rfl ?_
    refine XS.iconst X0.here hx rfl (hb hby at_4) ?_
    refine iremM X0 hx rfl (hb hby at_5) rfl (by decide) ?_
    exact Steps.refl _)
  rcases own_rem5 p0 with hn | hn | hn | hn | hn
  · skip
    have c4 : Steps p.tables e below S0 (s₁.setTop (mkF m 6 #[.val (.int p0), .val (.int p1), .unset, .unset, .unset, .unset, .unset, .unset, .unset, .unset, .unset, .unset] [(.int (0 : Int32))])) := by rw [← hn]; exact c3
    have c5 : Steps p.tables e below S0 (s₁.setTop (mkF m 13 #[.val (.int p0), .val (.int p1), .val (.int (0 : Int32)), .unset, .unset, .unset, .unset, .unset, .unset, .unset, .unset, .unset] [(.int ((p1 &&& (255 : Int32)).toUInt32.toUInt16.toUInt32.toInt32))])) := c4.trans (by
      refine XS.istoreN X0.here hx rfl (hb hby at_6) rfl (l' := #[.val (.int p0), .val (.int p1), .val (.int (0 : Int32)), .unset, .unset, .unset, .unset, .unset, .unset, .unset, .unset, .unset]) rfl ?_
      refine XS.iloadN X0.here hx rfl (hb hby at_7) rfl ?_
      refine XS.sipush X0.here hx rfl (hb hby at_8) ?_
      refine XS.iand X0.here hx rfl (hb hby at_11) rfl ?_
      refine XS.i2c X0.here hx rfl (hb hby at_12) rfl ?_
      exact Steps.refl _)
    obtain ⟨x6, hB6, eq6⟩ := own_bI p1
    have c6 : Steps p.tables e below S0 (s₁.setTop (mkF m 13 #[.val (.int p0), .val (.int p1), .val (.int (0 : Int32)), .unset, .unset, .unset, .unset, .unset, .unset, .unset, .unset, .unset] [(.int x6)])) := by rw [← eq6]; exact c5
    have c7 : Steps p.tables e below S0 (s₁.setTop (mkF m 23 #[.val (.int p0), .val (.int p1), .val (.int (0 : Int32)), .val (.int x6), .unset, .unset, .unset, .unset, .unset, .unset, .unset, .unset] [(.int ((((p1.toUInt32 >>> ((8 : Int32) &&& 31).toUInt32).toInt32) &&& (255 : Int32)).toUInt32.toUInt16.toUInt32.toInt32))])) := c6.trans (by
      refine XS.istoreN X0.here hx rfl (hb hby at_13) rfl (l' := #[.val (.int p0), .val (.int p1), .val (.int (0 : Int32)), .val (.int x6), .unset, .unset, .unset, .unset, .unset, .unset, .unset, .unset]) rfl ?_
      refine XS.iloadN X0.here hx rfl (hb hby at_14) rfl ?_
      refine XS.bipush X0.here hx rfl (hb hby at_15) ?_
      refine XS.iushr X0.here hx rfl (hb hby at_17) rfl ?_
      refine XS.sipush X0.here hx rfl (hb hby at_18) ?_
      refine XS.iand X0.here hx rfl (hb hby at_21) rfl ?_
      refine XS.i2c X0.here hx rfl (hb hby at_22) rfl ?_
      exact Steps.refl _)
    obtain ⟨x8, hB8, eq8⟩ := own_bI ((p1.toUInt32 >>> ((8 : Int32) &&& 31).toUInt32).toInt32)
    have c8 : Steps p.tables e below S0 (s₁.setTop (mkF m 23 #[.val (.int p0), .val (.int p1), .val (.int (0 : Int32)), .val (.int x6), .unset, .unset, .unset, .unset, .unset, .unset, .unset, .unset] [(.int x8)])) := by rw [← eq8]; exact c7
    have c9 : Steps p.tables e below S0 (s₁.setTop (mkF m 34 #[.val (.int p0), .val (.int p1), .val (.int (0 : Int32)), .val (.int x6), .val (.int x8), .unset, .unset, .unset, .unset, .unset, .unset, .unset] [(.int ((((p1.toUInt32 >>> ((16 : Int32) &&& 31).toUInt32).toInt32) &&& (255 : Int32)).toUInt32.toUInt16.toUInt32.toInt32))])) := c8.trans (by
      refine XS.istore X0.here hx rfl (hb hby at_23) rfl (l' := #[.val (.int p0), .val (.int p1), .val (.int (0 : Int32)), .val (.int x6), .val (.int x8), .unset, .unset, .unset, .unset, .unset, .unset, .unset]) rfl ?_
      refine XS.iloadN X0.here hx rfl (hb hby at_25) rfl ?_
      refine XS.bipush X0.here hx rfl (hb hby at_26) ?_
      refine XS.iushr X0.here hx rfl (hb hby at_28) rfl ?_
      refine XS.sipush X0.here hx rfl (hb hby at_29) ?_
      refine XS.iand X0.here hx rfl (hb hby at_32) rfl ?_
      refine XS.i2c X0.here hx rfl (hb hby at_33) rfl ?_
      exact Steps.refl _)
    obtain ⟨x10, hB10, eq10⟩ := own_bI ((p1.toUInt32 >>> ((16 : Int32) &&& 31).toUInt32).toInt32)
    have c10 : Steps p.tables e below S0 (s₁.setTop (mkF m 34 #[.val (.int p0), .val (.int p1), .val (.int (0 : Int32)), .val (.int x6), .val (.int x8), .unset, .unset, .unset, .unset, .unset, .unset, .unset] [(.int x10)])) := by rw [← eq10]; exact c9
    have c11 : Steps p.tables e below S0 (s₁.setTop (mkF m 45 #[.val (.int p0), .val (.int p1), .val (.int (0 : Int32)), .val (.int x6), .val (.int x8), .val (.int x10), .unset, .unset, .unset, .unset, .unset, .unset] [(.int ((((p1.toUInt32 >>> ((24 : Int32) &&& 31).toUInt32).toInt32) &&& (255 : Int32)).toUInt32.toUInt16.toUInt32.toInt32))])) := c10.trans (by
      refine XS.istore X0.here hx rfl (hb hby at_34) rfl (l' := #[.val (.int p0), .val (.int p1), .val (.int (0 : Int32)), .val (.int x6), .val (.int x8), .val (.int x10), .unset, .unset, .unset, .unset, .unset, .unset]) rfl ?_
      refine XS.iloadN X0.here hx rfl (hb hby at_36) rfl ?_
      refine XS.bipush X0.here hx rfl (hb hby at_37) ?_
      refine XS.iushr X0.here hx rfl (hb hby at_39) rfl ?_
      refine XS.sipush X0.here hx rfl (hb hby at_40) ?_
      refine XS.iand X0.here hx rfl (hb hby at_43) rfl ?_
      refine XS.i2c X0.here hx rfl (hb hby at_44) rfl ?_
      exact Steps.refl _)
    obtain ⟨x12, hB12, eq12⟩ := own_bI ((p1.toUInt32 >>> ((24 : Int32) &&& 31).toUInt32).toInt32)
    have c12 : Steps p.tables e below S0 (s₁.setTop (mkF m 45 #[.val (.int p0), .val (.int p1), .val (.int (0 : Int32)), .val (.int x6), .val (.int x8), .val (.int x10), .unset, .unset, .unset, .unset, .unset, .unset] [(.int x12)])) := by rw [← eq12]; exact c11
    have c13 : Steps p.tables e below S0 (s₁.setTop (mkF m 51 #[.val (.int p0), .val (.int p1), .val (.int (0 : Int32)), .val (.int x6), .val (.int x8), .val (.int x10), .val (.int x12), .unset, .unset, .unset, .unset, .unset] [(.int (7 : Int32))])) := c12.trans (by
      refine XS.istore X0.here hx rfl (hb hby at_45) rfl (l' := #[.val (.int p0), .val (.int p1), .val (.int (0 : Int32)), .val (.int x6), .val (.int x8), .val (.int x10), .val (.int x12), .unset, .unset, .unset, .unset, .unset]) rfl ?_
      refine XS.bipush X0.here hx rfl (hb hby at_47) ?_
      refine XS.iloadN X0.here hx rfl (hb hby at_49) rfl ?_
      refine XS.iadd X0.here hx rfl (hb hby at_50) rfl ?_
      exact Steps.refl _)
    obtain ⟨T14, h14, k14, X14, e14, E14, A14, st14⟩ := newP X0 hx hZ (hw _ (List.mem_of_getElem? (i := 1) rfl)) e0 (g := (mkF m 51 #[.val (.int p0), .val (.int p1), .val (.int (0 : Int32)), .val (.int x6), .val (.int x8), .val (.int x10), .val (.int x12), .unset, .unset, .unset, .unset, .unset] [(.int (7 : Int32))])) rfl (hb hby at_51) rfl (by decide) (cap := 7) (by decide) (by decide) (by decide) (by decide)
    obtain ⟨b14, g14⟩ : ∃ z, z = h0.size := ⟨_, rfl⟩
    rw [← g14] at A14 st14
    have lo14 : h0.size ≤ b14 := Nat.le_of_eq g14.symm
    have ge14 : Z.heap.size ≤ b14 := Nat.le_trans O0.2.1 lo14
    have R14 := CHr.ext (EL := EL) E14 CR0.1
    have sf14 := Safe.ext E14 CR0.1 (Safe.new lo14)
    have CR14 := CR0.trans R14
    have hk14 := Nat.le_trans hk0 R14.2.1
    have V14 := Arv.new A14 (by decide)
    have V14a : Arv Z h14 b14 k14 .char (7 : Int32) [(.int (0 : Int32)), (.int (0 : Int32)), (.int (0 : Int32)), (.int (0 : Int32)), (.int (0 : Int32)), (.int (0 : Int32)), (.int (0 : Int32))] (.int (0 : Int32)) := V14.pad (pad_rep [] (.int (0 : Int32)) 7)
    have c14 : Steps p.tables e below S0 (T14.setTop (mkF m 53 #[.val (.int p0), .val (.int p1), .val (.int (0 : Int32)), .val (.int x6), .val (.int x8), .val (.int x10), .val (.int x12), .unset, .unset, .unset, .unset, .unset] [(.ref b14)])) := c13.trans (st14 _ (Steps.refl _))
    have c15 : Steps p.tables e below S0 (T14.setTop (mkF m 56 #[.val (.int p0), .val (.int p1), .val (.int (0 : Int32)), .val (.int x6), .val (.int x8), .val (.int x10), .val (.int x12), .val (.ref b14), .unset, .unset, .unset, .unset] [(.int (0 : Int32))])) := c14.trans (by
      refine XS.astore X14.here hx rfl (hb hby at_53) rfl rfl (l' := #[.val (.int p0), .val (.int p1), .val (.int (0 : Int32)), .val (.int x6), .val (.int x8), .val (.int x10), .val (.int x12), .val (.ref b14), .unset, .unset, .unset, .unset]) rfl ?_
      refine XS.iloadN X14.here hx rfl (hb hby at_55) rfl ?_
      exact Steps.refl _)
    obtain ⟨T16, h16, k16, X16, e16, E16, A16, st16⟩ := newP X14 hx hZ (hw _ (List.mem_of_getElem? (i := 1) rfl)) e14 (g := (mkF m 56 #[.val (.int p0), .val (.int p1), .val (.int (0 : Int32)), .val (.int x6), .val (.int x8), .val (.int x10), .val (.int x12), .val (.ref b14), .unset, .unset, .unset, .unset] [(.int (0 : Int32))])) rfl (hb hby at_56) rfl (by decide) (cap := 0) (by decide) (by decide) (by decide) (by decide)
    obtain ⟨b16, g16⟩ : ∃ z, z = h14.size := ⟨_, rfl⟩
    rw [← g16] at A16 st16
    have lo16 : h14.size ≤ b16 := Nat.le_of_eq g16.symm
    have ge16 : Z.heap.size ≤ b16 := Nat.le_trans (O0.ext E14).2.1 lo16
    have R16 := CHr.ext (EL := EL) E16 CR14.1
    have sf16 := Safe.ext E16 CR14.1 (Safe.new lo16)
    have CR16 := CR14.trans R16
    have hk16 := Nat.le_trans hk14 R16.2.1
    have V16 := Arv.new A16 (by decide)
    have c16 : Steps p.tables e below S0 (T16.setTop (mkF m 58 #[.val (.int p0), .val (.int p1), .val (.int (0 : Int32)), .val (.int x6), .val (.int x8), .val (.int x10), .val (.int x12), .val (.ref b14), .unset, .unset, .unset, .unset] [(.ref b16)])) := c15.trans (st16 _ (Steps.refl _))
    have c17 : Steps p.tables e below S0 (T16.setTop (mkF m 65 #[.val (.int p0), .val (.int p1), .val (.int (0 : Int32)), .val (.int x6), .val (.int x8), .val (.int x10), .val (.int x12), .val (.ref b14), .val (.ref b16), .unset, .unset, .unset] [(.int (82 : Int32)), (.int (0 : Int32)), (.ref b14)])) := c16.trans (by
      refine XS.astore X16.here hx rfl (hb hby at_58) rfl rfl (l' := #[.val (.int p0), .val (.int p1), .val (.int (0 : Int32)), .val (.int x6), .val (.int x8), .val (.int x10), .val (.int x12), .val (.ref b14), .val (.ref b16), .unset, .unset, .unset]) rfl ?_
      refine XS.aload X16.here hx rfl (hb hby at_60) rfl rfl ?_
      refine XS.iconst X16.here hx rfl (hb hby at_62) ?_
      refine XS.bipush X16.here hx rfl (hb hby at_63) ?_
      exact Steps.refl _)
    obtain ⟨cl18, Ar18, q18, S18, M18, H18, G18⟩ := id (V14a.ext E16)
    have hin18 : ¬ ((0 : Int32) < 0 ∨ cl18.slots.size ≤ ((0 : Int32)).toNatClampNeg) := inb_of S18 ⟨by decide, by decide⟩
    obtain ⟨T18, h18, X18, e18, W18, st18⟩ := stC X16 hx hZ e16 Ar18 (j := (0 : Int32)) hin18 (g := (mkF m 65 #[.val (.int p0), .val (.int p1), .val (.int (0 : Int32)), .val (.int x6), .val (.int x8), .val (.int x10), .val (.int x12), .val (.ref b14), .val (.ref b16), .unset, .unset, .unset] [(.int (82 : Int32)), (.int (0 : Int32)), (.ref b14)])) rfl rfl (hb hby at_65)
    have V18 := Arv.set Ar18 q18 S18 M18 H18 G18 (fits_nar_char _) W18 0 rfl (Nat.le_of_ble_eq_true rfl)
    have N18 := Fr.snoc X18 N0 ge14
    have R18 := CHr.wr W18 (R16.safe V14.lt sf14) CR16.1
    have CR18 := CR16.trans R18
    have hk18 := Nat.le_trans hk16 R18.2.1
    have V18a : Arv Z h18 b14 k14 .char (7 : Int32) [(.int (82 : Int32)), (.int (0 : Int32)), (.int (0 : Int32)), (.int (0 : Int32)), (.int (0 : Int32)), (.int (0 : Int32)), (.int (0 : Int32))] (.int (0 : Int32)) := V18
    have c18 : Steps p.tables e below S0 (T18.setTop (mkF m 66 #[.val (.int p0), .val (.int p1), .val (.int (0 : Int32)), .val (.int x6), .val (.int x8), .val (.int x10), .val (.int x12), .val (.ref b14), .val (.ref b16), .unset, .unset, .unset] [])) := c17.trans (st18 _ (Steps.refl _))
    have c19 : Steps p.tables e below S0 (T18.setTop (mkF m 71 #[.val (.int p0), .val (.int p1), .val (.int (0 : Int32)), .val (.int x6), .val (.int x8), .val (.int x10), .val (.int x12), .val (.ref b14), .val (.ref b16), .unset, .unset, .unset] [(.int (95 : Int32)), (.int (1 : Int32)), (.ref b14)])) := c18.trans (by
      refine XS.aload X18.here hx rfl (hb hby at_66) rfl rfl ?_
      refine XS.iconst X18.here hx rfl (hb hby at_68) ?_
      refine XS.bipush X18.here hx rfl (hb hby at_69) ?_
      exact Steps.refl _)
    obtain ⟨cl20, Ar20, q20, S20, M20, H20, G20⟩ := id V18a
    have hin20 : ¬ ((1 : Int32) < 0 ∨ cl20.slots.size ≤ ((1 : Int32)).toNatClampNeg) := inb_of S20 ⟨by decide, by decide⟩
    obtain ⟨T20, h20, X20, e20, W20, st20⟩ := stC X18 hx hZ e18 Ar20 (j := (1 : Int32)) hin20 (g := (mkF m 71 #[.val (.int p0), .val (.int p1), .val (.int (0 : Int32)), .val (.int x6), .val (.int x8), .val (.int x10), .val (.int x12), .val (.ref b14), .val (.ref b16), .unset, .unset, .unset] [(.int (95 : Int32)), (.int (1 : Int32)), (.ref b14)])) rfl rfl (hb hby at_71)
    have V20 := Arv.set Ar20 q20 S20 M20 H20 G20 (fits_nar_char _) W20 1 rfl (Nat.le_of_ble_eq_true rfl)
    have N20 := Fr.snoc X20 N18 ge14
    have R20 := CHr.wr W20 ((R16.trans R18).safe V14.lt sf14) CR18.1
    have CR20 := CR18.trans R20
    have hk20 := Nat.le_trans hk18 R20.2.1
    have V20a : Arv Z h20 b14 k14 .char (7 : Int32) [(.int (82 : Int32)), (.int (95 : Int32)), (.int (0 : Int32)), (.int (0 : Int32)), (.int (0 : Int32)), (.int (0 : Int32)), (.int (0 : Int32))] (.int (0 : Int32)) := V20
    have c20 : Steps p.tables e below S0 (T20.setTop (mkF m 72 #[.val (.int p0), .val (.int p1), .val (.int (0 : Int32)), .val (.int x6), .val (.int x8), .val (.int x10), .val (.int x12), .val (.ref b14), .val (.ref b16), .unset, .unset, .unset] [])) := c19.trans (st20 _ (Steps.refl _))
    have c21 : Steps p.tables e below S0 (T20.setTop (mkF m 77 #[.val (.int p0), .val (.int p1), .val (.int (0 : Int32)), .val (.int x6), .val (.int x8), .val (.int x10), .val (.int x12), .val (.ref b14), .val (.ref b16), .unset, .unset, .unset] [(.int (95 : Int32)), (.int (2 : Int32)), (.ref b14)])) := c20.trans (by
      refine XS.aload X20.here hx rfl (hb hby at_72) rfl rfl ?_
      refine XS.iconst X20.here hx rfl (hb hby at_74) ?_
      refine XS.bipush X20.here hx rfl (hb hby at_75) ?_
      exact Steps.refl _)
    obtain ⟨cl22, Ar22, q22, S22, M22, H22, G22⟩ := id V20a
    have hin22 : ¬ ((2 : Int32) < 0 ∨ cl22.slots.size ≤ ((2 : Int32)).toNatClampNeg) := inb_of S22 ⟨by decide, by decide⟩
    obtain ⟨T22, h22, X22, e22, W22, st22⟩ := stC X20 hx hZ e20 Ar22 (j := (2 : Int32)) hin22 (g := (mkF m 77 #[.val (.int p0), .val (.int p1), .val (.int (0 : Int32)), .val (.int x6), .val (.int x8), .val (.int x10), .val (.int x12), .val (.ref b14), .val (.ref b16), .unset, .unset, .unset] [(.int (95 : Int32)), (.int (2 : Int32)), (.ref b14)])) rfl rfl (hb hby at_77)
    have V22 := Arv.set Ar22 q22 S22 M22 H22 G22 (fits_nar_char _) W22 2 rfl (Nat.le_of_ble_eq_true rfl)
    have N22 := Fr.snoc X22 N20 ge14
    have R22 := CHr.wr W22 (((R16.trans R18).trans R20).safe V14.lt sf14) CR20.1
    have CR22 := CR20.trans R22
    have hk22 := Nat.le_trans hk20 R22.2.1
    have V22a : Arv Z h22 b14 k14 .char (7 : Int32) [(.int (82 : Int32)), (.int (95 : Int32)), (.int (95 : Int32)), (.int (0 : Int32)), (.int (0 : Int32)), (.int (0 : Int32)), (.int (0 : Int32))] (.int (0 : Int32)) := V22
    have c22 : Steps p.tables e below S0 (T22.setTop (mkF m 78 #[.val (.int p0), .val (.int p1), .val (.int (0 : Int32)), .val (.int x6), .val (.int x8), .val (.int x10), .val (.int x12), .val (.ref b14), .val (.ref b16), .unset, .unset, .unset] [])) := c21.trans (st22 _ (Steps.refl _))
    have c23 : Steps p.tables e below S0 (T22.setTop (mkF m 151 #[.val (.int p0), .val (.int p1), .val (.int (0 : Int32)), .val (.int x6), .val (.int x8), .val (.int x10), .val (.int x12), .val (.ref b14), .val (.ref b16), .unset, .unset, .unset] [(.int (46 : Int32)), (.int (3 : Int32)), (.ref b14)])) := c22.trans (by
      refine XS.iloadN X22.here hx rfl (hb hby at_78) rfl ?_
      refine XS.ifYes X22.here hx rfl (pc0 := 79) (pc' := 92) rfl (hb hby at_79) rfl ((if0 _ _).trans (flt (by decide : ¬ ((0 : Int32) < (0 : Int32)))).2.2.2) (by decide) (by decide) ?_
      refine XS.iloadN X22.here hx rfl (hb hby at_92) rfl ?_
      refine XS.iconst X22.here hx rfl (hb hby at_93) ?_
      refine XS.icmpYes X22.here hx rfl (pc0 := 94) (pc' := 109) rfl (hb hby at_94) rfl (flt (by decide : ¬ ((1 : Int32) < (0 : Int32)))).2.2.2 (by decide) (by decide) ?_
      refine XS.iloadN X22.here hx rfl (hb hby at_109) rfl ?_
      refine XS.iconst X22.here hx rfl (hb hby at_110) ?_
      refine XS.icmpYes X22.here hx rfl (pc0 := 111) (pc' := 126) rfl (hb hby at_111) rfl (flt (by decide : ¬ ((2 : Int32) < (0 : Int32)))).2.2.2 (by decide) (by decide) ?_
      refine XS.iloadN X22.here hx rfl (hb hby at_126) rfl ?_
      refine XS.iconst X22.here hx rfl (hb hby at_127) ?_
      refine XS.icmpYes X22.here hx rfl (pc0 := 128) (pc' := 144) rfl (hb hby at_128) rfl (flt (by decide : ¬ ((3 : Int32) < (0 : Int32)))).2.2.2 (by decide) (by decide) ?_
      refine XS.aload X22.here hx rfl (hb hby at_144) rfl rfl ?_
      refine XS.iconst X22.here hx rfl (hb hby at_146) ?_
      refine XS.iloadN X22.here hx rfl (hb hby at_147) rfl ?_
      refine XS.iadd X22.here hx rfl (hb hby at_148) rfl ?_
      refine XS.bipush X22.here hx rfl (hb hby at_149) ?_
      exact Steps.refl _)
    obtain ⟨cl24, Ar24, q24, S24, M24, H24, G24⟩ := id V22a
    have hin24 : ¬ ((3 : Int32) < 0 ∨ cl24.slots.size ≤ ((3 : Int32)).toNatClampNeg) := inb_of S24 ⟨by decide, by decide⟩
    obtain ⟨T24, h24, X24, e24, W24, st24⟩ := stC X22 hx hZ e22 Ar24 (j := (3 : Int32)) hin24 (g := (mkF m 151 #[.val (.int p0), .val (.int p1), .val (.int (0 : Int32)), .val (.int x6), .val (.int x8), .val (.int x10), .val (.int x12), .val (.ref b14), .val (.ref b16), .unset, .unset, .unset] [(.int (46 : Int32)), (.int (3 : Int32)), (.ref b14)])) rfl rfl (hb hby at_151)
    have V24 := Arv.set Ar24 q24 S24 M24 H24 G24 (fits_nar_char _) W24 3 rfl (Nat.le_of_ble_eq_true rfl)
    have N24 := Fr.snoc X24 N22 ge14
    have R24 := CHr.wr W24 ((((R16.trans R18).trans R20).trans R22).safe V14.lt sf14) CR22.1
    have CR24 := CR22.trans R24
    have hk24 := Nat.le_trans hk22 R24.2.1
    have V24a : Arv Z h24 b14 k14 .char (7 : Int32) [(.int (82 : Int32)), (.int (95 : Int32)), (.int (95 : Int32)), (.int (46 : Int32)), (.int (0 : Int32)), (.int (0 : Int32)), (.int (0 : Int32))] (.int (0 : Int32)) := V24
    have c24 : Steps p.tables e below S0 (T24.setTop (mkF m 152 #[.val (.int p0), .val (.int p1), .val (.int (0 : Int32)), .val (.int x6), .val (.int x8), .val (.int x10), .val (.int x12), .val (.ref b14), .val (.ref b16), .unset, .unset, .unset] [])) := c23.trans (st24 _ (Steps.refl _))
    have c25 : Steps p.tables e below S0 (T24.setTop (mkF m 159 #[.val (.int p0), .val (.int p1), .val (.int (0 : Int32)), .val (.int x6), .val (.int x8), .val (.int x10), .val (.int x12), .val (.ref b14), .val (.ref b16), .unset, .unset, .unset] [(.int (115 : Int32)), (.int (4 : Int32)), (.ref b14)])) := c24.trans (by
      refine XS.aload X24.here hx rfl (hb hby at_152) rfl rfl ?_
      refine XS.iconst X24.here hx rfl (hb hby at_154) ?_
      refine XS.iloadN X24.here hx rfl (hb hby at_155) rfl ?_
      refine XS.iadd X24.here hx rfl (hb hby at_156) rfl ?_
      refine XS.bipush X24.here hx rfl (hb hby at_157) ?_
      exact Steps.refl _)
    obtain ⟨cl26, Ar26, q26, S26, M26, H26, G26⟩ := id V24a
    have hin26 : ¬ ((4 : Int32) < 0 ∨ cl26.slots.size ≤ ((4 : Int32)).toNatClampNeg) := inb_of S26 ⟨by decide, by decide⟩
    obtain ⟨T26, h26, X26, e26, W26, st26⟩ := stC X24 hx hZ e24 Ar26 (j := (4 : Int32)) hin26 (g := (mkF m 159 #[.val (.int p0), .val (.int p1), .val (.int (0 : Int32)), .val (.int x6), .val (.int x8), .val (.int x10), .val (.int x12), .val (.ref b14), .val (.ref b16), .unset, .unset, .unset] [(.int (115 : Int32)), (.int (4 : Int32)), (.ref b14)])) rfl rfl (hb hby at_159)
    have V26 := Arv.set Ar26 q26 S26 M26 H26 G26 (fits_nar_char _) W26 4 rfl (Nat.le_of_ble_eq_true rfl)
    have N26 := Fr.snoc X26 N24 ge14
    have R26 := CHr.wr W26 (((((R16.trans R18).trans R20).trans R22).trans R24).safe V14.lt sf14) CR24.1
    have CR26 := CR24.trans R26
    have hk26 := Nat.le_trans hk24 R26.2.1
    have V26a : Arv Z h26 b14 k14 .char (7 : Int32) [(.int (82 : Int32)), (.int (95 : Int32)), (.int (95 : Int32)), (.int (46 : Int32)), (.int (115 : Int32)), (.int (0 : Int32)), (.int (0 : Int32))] (.int (0 : Int32)) := V26
    have c26 : Steps p.tables e below S0 (T26.setTop (mkF m 160 #[.val (.int p0), .val (.int p1), .val (.int (0 : Int32)), .val (.int x6), .val (.int x8), .val (.int x10), .val (.int x12), .val (.ref b14), .val (.ref b16), .unset, .unset, .unset] [])) := c25.trans (st26 _ (Steps.refl _))
    have c27 : Steps p.tables e below S0 (T26.setTop (mkF m 167 #[.val (.int p0), .val (.int p1), .val (.int (0 : Int32)), .val (.int x6), .val (.int x8), .val (.int x10), .val (.int x12), .val (.ref b14), .val (.ref b16), .unset, .unset, .unset] [(.int (113 : Int32)), (.int (5 : Int32)), (.ref b14)])) := c26.trans (by
      refine XS.aload X26.here hx rfl (hb hby at_160) rfl rfl ?_
      refine XS.iconst X26.here hx rfl (hb hby at_162) ?_
      refine XS.iloadN X26.here hx rfl (hb hby at_163) rfl ?_
      refine XS.iadd X26.here hx rfl (hb hby at_164) rfl ?_
      refine XS.bipush X26.here hx rfl (hb hby at_165) ?_
      exact Steps.refl _)
    obtain ⟨cl28, Ar28, q28, S28, M28, H28, G28⟩ := id V26a
    have hin28 : ¬ ((5 : Int32) < 0 ∨ cl28.slots.size ≤ ((5 : Int32)).toNatClampNeg) := inb_of S28 ⟨by decide, by decide⟩
    obtain ⟨T28, h28, X28, e28, W28, st28⟩ := stC X26 hx hZ e26 Ar28 (j := (5 : Int32)) hin28 (g := (mkF m 167 #[.val (.int p0), .val (.int p1), .val (.int (0 : Int32)), .val (.int x6), .val (.int x8), .val (.int x10), .val (.int x12), .val (.ref b14), .val (.ref b16), .unset, .unset, .unset] [(.int (113 : Int32)), (.int (5 : Int32)), (.ref b14)])) rfl rfl (hb hby at_167)
    have V28 := Arv.set Ar28 q28 S28 M28 H28 G28 (fits_nar_char _) W28 5 rfl (Nat.le_of_ble_eq_true rfl)
    have N28 := Fr.snoc X28 N26 ge14
    have R28 := CHr.wr W28 ((((((R16.trans R18).trans R20).trans R22).trans R24).trans R26).safe V14.lt sf14) CR26.1
    have CR28 := CR26.trans R28
    have hk28 := Nat.le_trans hk26 R28.2.1
    have V28a : Arv Z h28 b14 k14 .char (7 : Int32) [(.int (82 : Int32)), (.int (95 : Int32)), (.int (95 : Int32)), (.int (46 : Int32)), (.int (115 : Int32)), (.int (113 : Int32)), (.int (0 : Int32))] (.int (0 : Int32)) := V28
    have c28 : Steps p.tables e below S0 (T28.setTop (mkF m 168 #[.val (.int p0), .val (.int p1), .val (.int (0 : Int32)), .val (.int x6), .val (.int x8), .val (.int x10), .val (.int x12), .val (.ref b14), .val (.ref b16), .unset, .unset, .unset] [])) := c27.trans (st28 _ (Steps.refl _))
    have c29 : Steps p.tables e below S0 (T28.setTop (mkF m 176 #[.val (.int p0), .val (.int p1), .val (.int (0 : Int32)), .val (.int x6), .val (.int x8), .val (.int x10), .val (.int x12), .val (.ref b14), .val (.ref b16), .unset, .unset, .unset] [(.int (108 : Int32)), (.int (6 : Int32)), (.ref b14)])) := c28.trans (by
      refine XS.aload X28.here hx rfl (hb hby at_168) rfl rfl ?_
      refine XS.bipush X28.here hx rfl (hb hby at_170) ?_
      refine XS.iloadN X28.here hx rfl (hb hby at_172) rfl ?_
      refine XS.iadd X28.here hx rfl (hb hby at_173) rfl ?_
      refine XS.bipush X28.here hx rfl (hb hby at_174) ?_
      exact Steps.refl _)
    obtain ⟨cl30, Ar30, q30, S30, M30, H30, G30⟩ := id V28a
    have hin30 : ¬ ((6 : Int32) < 0 ∨ cl30.slots.size ≤ ((6 : Int32)).toNatClampNeg) := inb_of S30 ⟨by decide, by decide⟩
    obtain ⟨T30, h30, X30, e30, W30, st30⟩ := stC X28 hx hZ e28 Ar30 (j := (6 : Int32)) hin30 (g := (mkF m 176 #[.val (.int p0), .val (.int p1), .val (.int (0 : Int32)), .val (.int x6), .val (.int x8), .val (.int x10), .val (.int x12), .val (.ref b14), .val (.ref b16), .unset, .unset, .unset] [(.int (108 : Int32)), (.int (6 : Int32)), (.ref b14)])) rfl rfl (hb hby at_176)
    have V30 := Arv.set Ar30 q30 S30 M30 H30 G30 (fits_nar_char _) W30 6 rfl (Nat.le_of_ble_eq_true rfl)
    have N30 := Fr.snoc X30 N28 ge14
    have R30 := CHr.wr W30 (((((((R16.trans R18).trans R20).trans R22).trans R24).trans R26).trans R28).safe V14.lt sf14) CR28.1
    have CR30 := CR28.trans R30
    have hk30 := Nat.le_trans hk28 R30.2.1
    have V30a : Arv Z h30 b14 k14 .char (7 : Int32) [(.int (82 : Int32)), (.int (95 : Int32)), (.int (95 : Int32)), (.int (46 : Int32)), (.int (115 : Int32)), (.int (113 : Int32)), (.int (108 : Int32))] (.int (0 : Int32)) := V30
    have c30 : Steps p.tables e below S0 (T30.setTop (mkF m 177 #[.val (.int p0), .val (.int p1), .val (.int (0 : Int32)), .val (.int x6), .val (.int x8), .val (.int x10), .val (.int x12), .val (.ref b14), .val (.ref b16), .unset, .unset, .unset] [])) := c29.trans (st30 _ (Steps.refl _))
    obtain ⟨T31, h31, X31, e31, E31, A31, D31, -, st31⟩ := newO X30 hx hZ hown (hw _ (List.mem_of_getElem? (i := 2) rfl)) (hw _ (List.mem_of_getElem? (i := 3) rfl)) (hw _ (List.mem_of_getElem? (i := 4) rfl)) e30 (g := (mkF m 177 #[.val (.int p0), .val (.int p1), .val (.int (0 : Int32)), .val (.int x6), .val (.int x8), .val (.int x10), .val (.int x12), .val (.ref b14), .val (.ref b16), .unset, .unset, .unset] [])) rfl (hb hby at_177) (by decide) (by decide)
    obtain ⟨b31, g31⟩ : ∃ z, z = h30.size := ⟨_, rfl⟩
    rw [← g31] at A31 D31 st31
    have lo31 : h30.size ≤ b31 := Nat.le_of_eq g31.symm
    have ge31 : Z.heap.size ≤ b31 := Nat.le_trans (((((((((O0.ext E14).ext E16).wr W18 ge14).wr W20 ge14).wr W22 ge14).wr W24 ge14).wr W26 ge14).wr W28 ge14).wr W30 ge14).2.1 lo31
    have R31 := CHr.ext (EL := EL) E31 CR30.1
    have sf31 := Safe.ext E31 CR30.1 (Safe.new lo31)
    have CR31 := CR30.trans R31
    have hk31 := Nat.le_trans hk30 R31.2.1
    have F31_coder : Fld Z h31 b31 "java/lang/String" "coder" "B" (.int (0 : Int32)) := D31 (Or.inr (hw _ (List.mem_of_getElem? (i := 28) rfl))) (ty := .byte) (by decide)
    have F31_value : Fld Z h31 b31 "java/lang/String" "value" "[B" .null := D31 (Or.inr (hw _ (List.mem_of_getElem? (i := 30) rfl))) (ty := (.array .byte)) (by decide)
    have c31 : Steps p.tables e below S0 (T31.setTop (mkF m 180 #[.val (.int p0), .val (.int p1), .val (.int (0 : Int32)), .val (.int x6), .val (.int x8), .val (.int x10), .val (.int x12), .val (.ref b14), .val (.ref b16), .unset, .unset, .unset] [(.ref b31)])) := c30.trans (st31 _ (Steps.refl _))
    have c32 : Steps p.tables e below S0 (T31.setTop (mkF m 183 #[.val (.int p0), .val (.int p1), .val (.int (0 : Int32)), .val (.int x6), .val (.int x8), .val (.int x10), .val (.int x12), .val (.ref b14), .val (.ref b16), .unset, .unset, .unset] [(.ref b14), (.ref b31), (.ref b31)])) := c31.trans (by
      refine XS.dup X31.here hx rfl (hb hby at_180) rfl rfl ?_
      refine XS.aload X31.here hx rfl (hb hby at_181) rfl rfl ?_
      exact Steps.refl _)
    obtain ⟨v33, T33, L33, X33, ⟨rfl, N33', K33, E33, Cd33, t33, kb33, gt33, lo33, ne33, V33, Kb33⟩, c33'⟩ := own_spec X31 hx hml hZ hown rfl (hw _ (List.mem_of_getElem? (i := 5) rfl)) (hw _ (List.mem_of_getElem? (i := 6) rfl)) (hw _ (List.mem_of_getElem? (i := 7) rfl)) (by decide) (Q := StrChars.Road.QV Z b31 (7 : Int32) (([(82 : Int32), (95 : Int32), (95 : Int32), (46 : Int32), (115 : Int32), (113 : Int32), (108 : Int32)] : List Int32).map (fun c : Int32 => c.toInt8.toInt32)) h31 Z.heap.size) (kc := 1) (ks := 7) (h := h31) (W := 1) (b := b31) (argsL := [(.ref b14)]) (rest := [(.ref b31)]) (StrChars.Road.backV (s := (s.setVm s.vm)) (R := room_1) (W := 1) hZ (own_wi hw) (kI := 4) (hw _ (List.mem_of_getElem? (i := 3) rfl)) (cs := [(82 : Int32), (95 : Int32), (95 : Int32), (46 : Int32), (115 : Int32), (113 : Int32), (108 : Int32)]) (bs := ([(82 : Int32), (95 : Int32), (95 : Int32), (46 : Int32), (115 : Int32), (113 : Int32), (108 : Int32)] : List Int32).map (fun c : Int32 => c.toInt8.toInt32)) (n := 7) ge31 ((((((((((O0.ext E14).ext E16).wr W18 ge14).wr W20 ge14).wr W22 ge14).wr W24 ge14).wr W26 ge14).wr W28 ge14).wr W30 ge14).ext E31).2.1 A31 F31_value F31_coder (V30a.ext E31) (SC.ext ((((((((((O0.ext E14).ext E16).wr W18 ge14).wr W20 ge14).wr W22 ge14).wr W24 ge14).wr W26 ge14).wr W28 ge14).wr W30 ge14).ext E31).2) hz rfl rfl (by decide) (by decide) (fun c hc => ((own_cons (own_Bl 82 (by decide)) (own_cons (own_Bl 95 (by decide)) (own_cons (own_Bl 95 (by decide)) (own_cons (own_Bl 46 (by decide)) (own_cons (own_Bl 115 (by decide)) (own_cons (own_Bl 113 (by decide)) (own_cons (own_Bl 108 (by decide)) own_nil))))))) c hc).rng) rfl (by decide) (by decide)) c32 rfl rfl (lenOf pd_10 rfl) rfl (by show 2 * 0 + _ ≤ _; exact Nat.le_of_eq rfl) (hb hby at_183) e31 (by decide) (by decide)
    have N33 := Fr.app N30 N33'
    have R33 := CHr.keep K33 (sfS sf31 sf0) CR31.1
    have CR33 := CR31.trans R33
    have hk33 := Nat.le_trans hk31 R33.2.1
    have c33 : Steps p.tables e below S0 (T33.setTop (mkF m 186 #[.val (.int p0), .val (.int p1), .val (.int (0 : Int32)), .val (.int x6), .val (.int x8), .val (.int x10), .val (.int x12), .val (.ref b14), .val (.ref b16), .unset, .unset, .unset] [(.ref b31)])) := c33'
    have c34 : Steps p.tables e below S0 (T33.setTop (mkF m 188 #[.val (.int p0), .val (.int p1), .val (.int (0 : Int32)), .val (.int x6), .val (.int x8), .val (.int x10), .val (.int x12), .val (.ref b14), .val (.ref b16), .val (.ref b31), .unset, .unset] [])) := c33.trans (by
      refine XS.astore X33.here hx rfl (hb hby at_186) rfl rfl (l' := #[.val (.int p0), .val (.int p1), .val (.int (0 : Int32)), .val (.int x6), .val (.int x8), .val (.int x10), .val (.int x12), .val (.ref b14), .val (.ref b16), .val (.ref b31), .unset, .unset]) rfl ?_
      exact Steps.refl _)
    obtain ⟨T35, h35, X35, e35, E35, A35, D35, -, st35⟩ := newO X33 hx hZ hown (hw _ (List.mem_of_getElem? (i := 2) rfl)) (hw _ (List.mem_of_getElem? (i := 3) rfl)) (hw _ (List.mem_of_getElem? (i := 4) rfl)) rfl (g := (mkF m 188 #[.val (.int p0), .val (.int p1), .val (.int (0 : Int32)), .val (.int x6), .val (.int x8), .val (.int x10), .val (.int x12), .val (.ref b14), .val (.ref b16), .val (.ref b31), .unset, .unset] [])) rfl (hb hby at_188) (by decide) (by decide)
    obtain ⟨b35, g35⟩ : ∃ z, z = T33.heap.size := ⟨_, rfl⟩
    rw [← g35] at A35 D35 st35
    have lo35 : T33.heap.size ≤ b35 := Nat.le_of_eq g35.symm
    have ge35 : Z.heap.size ≤ b35 := Nat.le_trans (((((((((((O0.ext E14).ext E16).wr W18 ge14).wr W20 ge14).wr W22 ge14).wr W24 ge14).wr W26 ge14).wr W28 ge14).wr W30 ge14).ext E31).keep K33 (allS ge31 all0)).2.1 lo35
    have R35 := CHr.ext (EL := EL) E35 CR33.1
    have sf35 := Safe.ext E35 CR33.1 (Safe.new lo35)
    have CR35 := CR33.trans R35
    have hk35 := Nat.le_trans hk33 R35.2.1
    have F35_coder : Fld Z h35 b35 "java/lang/String" "coder" "B" (.int (0 : Int32)) := D35 (Or.inr (hw _ (List.mem_of_getElem? (i := 28) rfl))) (ty := .byte) (by decide)
    have F35_value : Fld Z h35 b35 "java/lang/String" "value" "[B" .null := D35 (Or.inr (hw _ (List.mem_of_getElem? (i := 30) rfl))) (ty := (.array .byte)) (by decide)
    have c35 : Steps p.tables e below S0 (T35.setTop (mkF m 191 #[.val (.int p0), .val (.int p1), .val (.int (0 : Int32)), .val (.int x6), .val (.int x8), .val (.int x10), .val (.int x12), .val (.ref b14), .val (.ref b16), .val (.ref b31), .unset, .unset] [(.ref b35)])) := c34.trans (st35 _ (Steps.refl _))
    have c36 : Steps p.tables e below S0 (T35.setTop (mkF m 194 #[.val (.int p0), .val (.int p1), .val (.int (0 : Int32)), .val (.int x6), .val (.int x8), .val (.int x10), .val (.int x12), .val (.ref b14), .val (.ref b16), .val (.ref b31), .unset, .unset] [(.ref b16), (.ref b35), (.ref b35)])) := c35.trans (by
      refine XS.dup X35.here hx rfl (hb hby at_191) rfl rfl ?_
      refine XS.aload X35.here hx rfl (hb hby at_192) rfl rfl ?_
      exact Steps.refl _)
    obtain ⟨v37, T37, L37, X37, hS37, hZ37, hown37, R37, ⟨N37', rfl, K37, E37, Cd37, t37, kt37, V37, Kt37⟩, c37'⟩ := own_wspec X35 hx hml hZ hown hS0 hk35 rfl (hw _ (List.mem_of_getElem? (i := 5) rfl)) (hw _ (List.mem_of_getElem? (i := 6) rfl)) (hw _ (List.mem_of_getElem? (i := 7) rfl)) (by decide) (kc := 4) (ks := 8) (h := h35) (W := 1) (b := b35) (argsL := [(.ref b16)]) (rest := [(.ref b35)]) (own_wpay (W := 1) (rmI1 l Z a0 hw hEL b35 b16 k16 _ _ h35 ((((((((((((O0.ext E14).ext E16).wr W18 ge14).wr W20 ge14).wr W22 ge14).wr W24 ge14).wr W26 ge14).wr W28 ge14).wr W30 ge14).ext E31).keep K33 (allS ge31 all0)).ext E35) A35 F35_value F35_coder ge35 ((((((((((V16.other W18 (Ne.symm (Nat.ne_of_lt (Nat.lt_of_lt_of_le V14.lt lo16)))).other W20 (Ne.symm (Nat.ne_of_lt (Nat.lt_of_lt_of_le V14.lt lo16)))).other W22 (Ne.symm (Nat.ne_of_lt (Nat.lt_of_lt_of_le V14.lt lo16)))).other W24 (Ne.symm (Nat.ne_of_lt (Nat.lt_of_lt_of_le V14.lt lo16)))).other W26 (Ne.symm (Nat.ne_of_lt (Nat.lt_of_lt_of_le V14.lt lo16)))).other W28 (Ne.symm (Nat.ne_of_lt (Nat.lt_of_lt_of_le V14.lt lo16)))).other W30 (Ne.symm (Nat.ne_of_lt (Nat.lt_of_lt_of_le V14.lt lo16)))).ext E31).keep K33 (ninS (Nat.ne_of_lt (Nat.lt_of_lt_of_le (Nat.lt_of_lt_of_le V16.lt (Nat.le_trans (Nat.le_trans (Nat.le_trans (Nat.le_trans (Nat.le_trans (Nat.le_trans (Keep.of_wr W18).1 (Keep.of_wr W20).1) (Keep.of_wr W22).1) (Keep.of_wr W24).1) (Keep.of_wr W26).1) (Keep.of_wr W28).1) (Keep.of_wr W30).1)) lo31)) nin0)).ext E35)) hZ (hw _ (List.mem_of_getElem? (i := 7) rfl)) (hw _ (List.mem_of_getElem? (i := 4) rfl)) (by decide) (by decide) hEL CR35.1 (allS ⟨A35.lt, sf35⟩ all0)) c36 rfl rfl (lenOf pd_10 rfl) rfl (by show 2 * 0 + _ ≤ _; exact Nat.le_of_eq rfl) (hb hby at_194) e35 (by decide) (by decide)
    have N37 := Fr.app N33 N37'
    have CR37 := CR35.trans R37
    have c37 : Steps p.tables e below S0 (T37.setTop (mkF m 197 #[.val (.int p0), .val (.int p1), .val (.int (0 : Int32)), .val (.int x6), .val (.int x8), .val (.int x10), .val (.int x12), .val (.ref b14), .val (.ref b16), .val (.ref b31), .unset, .unset] [(.ref b35)])) := c37'
    have c38 : Steps p.tables e below S0 (T37.setTop (mkF m 201 #[.val (.int p0), .val (.int p1), .val (.int (0 : Int32)), .val (.int x6), .val (.int x8), .val (.int x10), .val (.int x12), .val (.ref b14), .val (.ref b16), .val (.ref b31), .val (.ref b35), .unset] [(.ref b31)])) := c37.trans (by
      refine XS.astore X37.here hx rfl (hb hby at_197) rfl rfl (l' := #[.val (.int p0), .val (.int p1), .val (.int (0 : Int32)), .val (.int x6), .val (.int x8), .val (.int x10), .val (.int x12), .val (.ref b14), .val (.ref b16), .val (.ref b31), .val (.ref b35), .unset]) rfl ?_
      refine XS.aload X37.here hx rfl (hb hby at_199) rfl rfl ?_
      exact Steps.refl _)
    obtain ⟨v39, T39, L39, X39, hS39, hZ39, hown39, R39, ⟨N39', x39, t39, kb39, rfl, K39, E39, V39, Cd39, Kb39⟩, c39'⟩ := own_wstat X37 hx hml hZ37 hown37 hS37 (Nat.le_refl _) (hw _ (List.mem_of_getElem? (i := 34) rfl)) (hw _ (List.mem_of_getElem? (i := 35) rfl)) (hw _ (List.mem_of_getElem? (i := 36) rfl)) (hw _ (List.mem_of_getElem? (i := 37) rfl)) (by decide) (kc := 10) (ks := 100) (h := T37.heap) (W := 0) (argsL := [(.ref b31)]) (rest := []) (own_wpay (W := 0) (rmRN0 l Z a0 hw hEL b31 t33 kb33 x6 x8 x10 x12 z fm T37.heap (((((((((((((O0.ext E14).ext E16).wr W18 ge14).wr W20 ge14).wr W22 ge14).wr W24 ge14).wr W26 ge14).wr W28 ge14).wr W30 ge14).ext E31).keep K33 (allS ge31 all0)).ext E35).keep K37 (allS ge35 all0)) ((E33.ext E35).keep K37) ((V33.ext E35).keep K37 (ninS (Nat.ne_of_lt (Nat.lt_of_lt_of_le (Nat.lt_of_lt_of_le A31.lt K33.1) lo35)) nin0)) ((Cd33.ext E35).keep K37 (ninS (Nat.ne_of_lt (Nat.lt_of_lt_of_le (Nat.lt_of_lt_of_le A31.lt K33.1) lo35)) nin0)) ((Kb33.ext E35).keep K37 (ninS (Nat.ne_of_lt (Nat.lt_of_lt_of_le Kb33.lt lo35)) nin0)) hB6 hB8 hB10 hB12 SC hz SF hfm) hZ37 (hw _ (List.mem_of_getElem? (i := 37) rfl)) (hw _ (List.mem_of_getElem? (i := 36) rfl)) (by decide) (by decide) hEL CR37.1 all0) c38 rfl rfl (lenOf pd_12 rfl) rfl (by show 2 * 0 + _ ≤ _; exact Nat.le_of_eq rfl) (hb hby at_201) rfl (by decide) (by decide)
    have N39 := Fr.app N37 N39'
    have CR39 := CR37.trans R39
    have c39 : Steps p.tables e below S0 (T39.setTop (mkF m 204 #[.val (.int p0), .val (.int p1), .val (.int (0 : Int32)), .val (.int x6), .val (.int x8), .val (.int x10), .val (.int x12), .val (.ref b14), .val (.ref b16), .val (.ref b31), .val (.ref b35), .unset] [(.ref x39)])) := c39'
    have c40 : Steps p.tables e below S0 (T39.setTop (mkF m 210 #[.val (.int p0), .val (.int p1), .val (.int (0 : Int32)), .val (.int x6), .val (.int x8), .val (.int x10), .val (.int x12), .val (.ref b14), .val (.ref b16), .val (.ref b31), .val (.ref b35), .val (.ref x39)] [(.ref b35), (.ref x39)])) := c39.trans (by
      refine XS.astore X39.here hx rfl (hb hby at_204) rfl rfl (l' := #[.val (.int p0), .val (.int p1), .val (.int (0 : Int32)), .val (.int x6), .val (.int x8), .val (.int x10), .val (.int x12), .val (.ref b14), .val (.ref b16), .val (.ref b31), .val (.ref b35), .val (.ref x39)]) rfl ?_
      refine XS.aload X39.here hx rfl (hb hby at_206) rfl rfl ?_
      refine XS.aload X39.here hx rfl (hb hby at_208) rfl rfl ?_
      exact Steps.refl _)
    obtain ⟨v41, T41, L41, X41, ⟨hv41, rfl, e41⟩, c41'⟩ := own_virt X39 hx hml hZ39 hown39 (hw _ (List.mem_of_getElem? (i := 74) rfl)) (hw _ (List.mem_of_getElem? (i := 75) rfl)) (hw _ (List.mem_of_getElem? (i := 77) rfl)) (hw _ (List.mem_of_getElem? (i := 76) rfl)) (hw _ (List.mem_of_getElem? (i := 77) rfl)) (by decide) (Q := fun v h' L => ((v = some (.int 1) ∧ ([] : List Int32) = []) ∨ (v = some (.int 0) ∧ ¬ ([] : List Int32) = [])) ∧ L = [] ∧ h' = T39.heap) (kc := 0) (ks := 0) (h := T39.heap) (W := 0) (b := x39) (argsL := [(.ref b35)]) (rest := []) (StrChars.Road.eqW (s := (s.setVm T39.vm)) (R := room_1) (W := 0) hZ39 (own_we hw) (kI := 4) (hw _ (List.mem_of_getElem? (i := 3) rfl)) (cs := []) E39 V39 Cd39 Kb39 (StrChars.Road.codOf (n := ([] : List Int32).length) rfl (fun c hc => (own_nil c hc).rng.2)) (fun c hc => (own_nil c hc).rng2) (Nat.le_of_ble_eq_true rfl) (ds := []) (E37.keep K39) (V37.keep K39 nin0) (Cd37.keep K39 nin0) (Kt37.keep K39 nin0) (StrChars.Road.codOf (n := ([] : List Int32).length) rfl (fun c hc => (own_nil c hc).rng.2)) (fun c hc => (own_nil c hc).rng2) (Nat.le_of_ble_eq_true rfl) (SC.ext ((((((((((((((O0.ext E14).ext E16).wr W18 ge14).wr W20 ge14).wr W22 ge14).wr W24 ge14).wr W26 ge14).wr W28 ge14).wr W30 ge14).ext E31).keep K33 (allS ge31 all0)).ext E35).keep K37 (allS ge35 all0)).keep K39 all0).2) hz (by decide) (by decide)) E39 c40 rfl rfl (lenOf pd_13 rfl) rfl (by show 2 * 0 + _ ≤ _; exact Nat.le_of_eq rfl) (hb hby at_210) rfl (by decide) (by decide)
    have N41 := Fr.app N39 (Fr.nil _)
    rcases hv41 with ⟨rfl, hq41⟩ | ⟨rfl, hq41⟩
    · skip
      have c41 : Steps p.tables e below S0 (T41.setTop (mkF m 213 #[.val (.int p0), .val (.int p1), .val (.int (0 : Int32)), .val (.int x6), .val (.int x8), .val (.int x10), .val (.int x12), .val (.ref b14), .val (.ref b16), .val (.ref b31), .val (.ref b35), .val (.ref x39)] [(.int (1 : Int32))])) := c41'
      refine ⟨T41, T39.vm, _, (some (.int (1 : Int32))), _, _, _, X41, by decide, by decide, (fun q => by cases q), N41, hS39, by rw [e41]; exact (Nat.le_refl _), hZ39, by rw [e41]; exact CR39, ?_, fun fs hr => ?_⟩
      · skip
        exact rfl
      · exact c41.trans (retN X41 hx (t := .boolean) hret (by simp) (hb hby at_213) hr)
    · skip
      have c41 : Steps p.tables e below S0 (T41.setTop (mkF m 213 #[.val (.int p0), .val (.int p1), .val (.int (0 : Int32)), .val (.int x6), .val (.int x8), .val (.int x10), .val (.int x12), .val (.ref b14), .val (.ref b16), .val (.ref b31), .val (.ref b35), .val (.ref x39)] [(.int (0 : Int32))])) := c41'
      exact absurd rfl hq41
  · skip
    have c43 : Steps p.tables e below S0 (s₁.setTop (mkF m 6 #[.val (.int p0), .val (.int p1), .unset, .unset, .unset, .unset, .unset, .unset, .unset, .unset, .unset, .unset] [(.int (1 : Int32))])) := by rw [← hn]; exact c3
    have c44 : Steps p.tables e below S0 (s₁.setTop (mkF m 13 #[.val (.int p0), .val (.int p1), .val (.int (1 : Int32)), .unset, .unset, .unset, .unset, .unset, .unset, .unset, .unset, .unset] [(.int ((p1 &&& (255 : Int32)).toUInt32.toUInt16.toUInt32.toInt32))])) := c43.trans (by
      refine XS.istoreN X0.here hx rfl (hb hby at_6) rfl (l' := #[.val (.int p0), .val (.int p1), .val (.int (1 : Int32)), .unset, .unset, .unset, .unset, .unset, .unset, .unset, .unset, .unset]) rfl ?_
      refine XS.iloadN X0.here hx rfl (hb hby at_7) rfl ?_
      refine XS.sipush X0.here hx rfl (hb hby at_8) ?_
      refine XS.iand X0.here hx rfl (hb hby at_11) rfl ?_
      refine XS.i2c X0.here hx rfl (hb hby at_12) rfl ?_
      exact Steps.refl _)
    obtain ⟨x45, hB45, eq45⟩ := own_bI p1
    have c45 : Steps p.tables e below S0 (s₁.setTop (mkF m 13 #[.val (.int p0), .val (.int p1), .val (.int (1 : Int32)), .unset, .unset, .unset, .unset, .unset, .unset, .unset, .unset, .unset] [(.int x45)])) := by rw [← eq45]; exact c44
    have c46 : Steps p.tables e below S0 (s₁.setTop (mkF m 23 #[.val (.int p0), .val (.int p1), .val (.int (1 : Int32)), .val (.int x45), .unset, .unset, .unset, .unset, .unset, .unset, .unset, .unset] [(.int ((((p1.toUInt32 >>> ((8 : Int32) &&& 31).toUInt32).toInt32) &&& (255 : Int32)).toUInt32.toUInt16.toUInt32.toInt32))])) := c45.trans (by
      refine XS.istoreN X0.here hx rfl (hb hby at_13) rfl (l' := #[.val (.int p0), .val (.int p1), .val (.int (1 : Int32)), .val (.int x45), .unset, .unset, .unset, .unset, .unset, .unset, .unset, .unset]) rfl ?_
      refine XS.iloadN X0.here hx rfl (hb hby at_14) rfl ?_
      refine XS.bipush X0.here hx rfl (hb hby at_15) ?_
      refine XS.iushr X0.here hx rfl (hb hby at_17) rfl ?_
      refine XS.sipush X0.here hx rfl (hb hby at_18) ?_
      refine XS.iand X0.here hx rfl (hb hby at_21) rfl ?_
      refine XS.i2c X0.here hx rfl (hb hby at_22) rfl ?_
      exact Steps.refl _)
    obtain ⟨x47, hB47, eq47⟩ := own_bI ((p1.toUInt32 >>> ((8 : Int32) &&& 31).toUInt32).toInt32)
    have c47 : Steps p.tables e below S0 (s₁.setTop (mkF m 23 #[.val (.int p0), .val (.int p1), .val (.int (1 : Int32)), .val (.int x45), .unset, .unset, .unset, .unset, .unset, .unset, .unset, .unset] [(.int x47)])) := by rw [← eq47]; exact c46
    have c48 : Steps p.tables e below S0 (s₁.setTop (mkF m 34 #[.val (.int p0), .val (.int p1), .val (.int (1 : Int32)), .val (.int x45), .val (.int x47), .unset, .unset, .unset, .unset, .unset, .unset, .unset] [(.int ((((p1.toUInt32 >>> ((16 : Int32) &&& 31).toUInt32).toInt32) &&& (255 : Int32)).toUInt32.toUInt16.toUInt32.toInt32))])) := c47.trans (by
      refine XS.istore X0.here hx rfl (hb hby at_23) rfl (l' := #[.val (.int p0), .val (.int p1), .val (.int (1 : Int32)), .val (.int x45), .val (.int x47), .unset, .unset, .unset, .unset, .unset, .unset, .unset]) rfl ?_
      refine XS.iloadN X0.here hx rfl (hb hby at_25) rfl ?_
      refine XS.bipush X0.here hx rfl (hb hby at_26) ?_
      refine XS.iushr X0.here hx rfl (hb hby at_28) rfl ?_
      refine XS.sipush X0.here hx rfl (hb hby at_29) ?_
      refine XS.iand X0.here hx rfl (hb hby at_32) rfl ?_
      refine XS.i2c X0.here hx rfl (hb hby at_33) rfl ?_
      exact Steps.refl _)
    obtain ⟨x49, hB49, eq49⟩ := own_bI ((p1.toUInt32 >>> ((16 : Int32) &&& 31).toUInt32).toInt32)
    have c49 : Steps p.tables e below S0 (s₁.setTop (mkF m 34 #[.val (.int p0), .val (.int p1), .val (.int (1 : Int32)), .val (.int x45), .val (.int x47), .unset, .unset, .unset, .unset, .unset, .unset, .unset] [(.int x49)])) := by rw [← eq49]; exact c48
    have c50 : Steps p.tables e below S0 (s₁.setTop (mkF m 45 #[.val (.int p0), .val (.int p1), .val (.int (1 : Int32)), .val (.int x45), .val (.int x47), .val (.int x49), .unset, .unset, .unset, .unset, .unset, .unset] [(.int ((((p1.toUInt32 >>> ((24 : Int32) &&& 31).toUInt32).toInt32) &&& (255 : Int32)).toUInt32.toUInt16.toUInt32.toInt32))])) := c49.trans (by
      refine XS.istore X0.here hx rfl (hb hby at_34) rfl (l' := #[.val (.int p0), .val (.int p1), .val (.int (1 : Int32)), .val (.int x45), .val (.int x47), .val (.int x49), .unset, .unset, .unset, .unset, .unset, .unset]) rfl ?_
      refine XS.iloadN X0.here hx rfl (hb hby at_36) rfl ?_
      refine XS.bipush X0.here hx rfl (hb hby at_37) ?_
      refine XS.iushr X0.here hx rfl (hb hby at_39) rfl ?_
      refine XS.sipush X0.here hx rfl (hb hby at_40) ?_
      refine XS.iand X0.here hx rfl (hb hby at_43) rfl ?_
      refine XS.i2c X0.here hx rfl (hb hby at_44) rfl ?_
      exact Steps.refl _)
    obtain ⟨x51, hB51, eq51⟩ := own_bI ((p1.toUInt32 >>> ((24 : Int32) &&& 31).toUInt32).toInt32)
    have c51 : Steps p.tables e below S0 (s₁.setTop (mkF m 45 #[.val (.int p0), .val (.int p1), .val (.int (1 : Int32)), .val (.int x45), .val (.int x47), .val (.int x49), .unset, .unset, .unset, .unset, .unset, .unset] [(.int x51)])) := by rw [← eq51]; exact c50
    have c52 : Steps p.tables e below S0 (s₁.setTop (mkF m 51 #[.val (.int p0), .val (.int p1), .val (.int (1 : Int32)), .val (.int x45), .val (.int x47), .val (.int x49), .val (.int x51), .unset, .unset, .unset, .unset, .unset] [(.int (8 : Int32))])) := c51.trans (by
      refine XS.istore X0.here hx rfl (hb hby at_45) rfl (l' := #[.val (.int p0), .val (.int p1), .val (.int (1 : Int32)), .val (.int x45), .val (.int x47), .val (.int x49), .val (.int x51), .unset, .unset, .unset, .unset, .unset]) rfl ?_
      refine XS.bipush X0.here hx rfl (hb hby at_47) ?_
      refine XS.iloadN X0.here hx rfl (hb hby at_49) rfl ?_
      refine XS.iadd X0.here hx rfl (hb hby at_50) rfl ?_
      exact Steps.refl _)
    obtain ⟨T53, h53, k53, X53, e53, E53, A53, st53⟩ := newP X0 hx hZ (hw _ (List.mem_of_getElem? (i := 1) rfl)) e0 (g := (mkF m 51 #[.val (.int p0), .val (.int p1), .val (.int (1 : Int32)), .val (.int x45), .val (.int x47), .val (.int x49), .val (.int x51), .unset, .unset, .unset, .unset, .unset] [(.int (8 : Int32))])) rfl (hb hby at_51) rfl (by decide) (cap := 8) (by decide) (by decide) (by decide) (by decide)
    obtain ⟨b53, g53⟩ : ∃ z, z = h0.size := ⟨_, rfl⟩
    rw [← g53] at A53 st53
    have lo53 : h0.size ≤ b53 := Nat.le_of_eq g53.symm
    have ge53 : Z.heap.size ≤ b53 := Nat.le_trans O0.2.1 lo53
    have R53 := CHr.ext (EL := EL) E53 CR0.1
    have sf53 := Safe.ext E53 CR0.1 (Safe.new lo53)
    have CR53 := CR0.trans R53
    have hk53 := Nat.le_trans hk0 R53.2.1
    have V53 := Arv.new A53 (by decide)
    have V53a : Arv Z h53 b53 k53 .char (8 : Int32) [(.int (0 : Int32)), (.int (0 : Int32)), (.int (0 : Int32)), (.int (0 : Int32)), (.int (0 : Int32)), (.int (0 : Int32)), (.int (0 : Int32)), (.int (0 : Int32))] (.int (0 : Int32)) := V53.pad (pad_rep [] (.int (0 : Int32)) 8)
    have c53 : Steps p.tables e below S0 (T53.setTop (mkF m 53 #[.val (.int p0), .val (.int p1), .val (.int (1 : Int32)), .val (.int x45), .val (.int x47), .val (.int x49), .val (.int x51), .unset, .unset, .unset, .unset, .unset] [(.ref b53)])) := c52.trans (st53 _ (Steps.refl _))
    have c54 : Steps p.tables e below S0 (T53.setTop (mkF m 56 #[.val (.int p0), .val (.int p1), .val (.int (1 : Int32)), .val (.int x45), .val (.int x47), .val (.int x49), .val (.int x51), .val (.ref b53), .unset, .unset, .unset, .unset] [(.int (1 : Int32))])) := c53.trans (by
      refine XS.astore X53.here hx rfl (hb hby at_53) rfl rfl (l' := #[.val (.int p0), .val (.int p1), .val (.int (1 : Int32)), .val (.int x45), .val (.int x47), .val (.int x49), .val (.int x51), .val (.ref b53), .unset, .unset, .unset, .unset]) rfl ?_
      refine XS.iloadN X53.here hx rfl (hb hby at_55) rfl ?_
      exact Steps.refl _)
    obtain ⟨T55, h55, k55, X55, e55, E55, A55, st55⟩ := newP X53 hx hZ (hw _ (List.mem_of_getElem? (i := 1) rfl)) e53 (g := (mkF m 56 #[.val (.int p0), .val (.int p1), .val (.int (1 : Int32)), .val (.int x45), .val (.int x47), .val (.int x49), .val (.int x51), .val (.ref b53), .unset, .unset, .unset, .unset] [(.int (1 : Int32))])) rfl (hb hby at_56) rfl (by decide) (cap := 1) (by decide) (by decide) (by decide) (by decide)
    obtain ⟨b55, g55⟩ : ∃ z, z = h53.size := ⟨_, rfl⟩
    rw [← g55] at A55 st55
    have lo55 : h53.size ≤ b55 := Nat.le_of_eq g55.symm
    have ge55 : Z.heap.size ≤ b55 := Nat.le_trans (O0.ext E53).2.1 lo55
    have R55 := CHr.ext (EL := EL) E55 CR53.1
    have sf55 := Safe.ext E55 CR53.1 (Safe.new lo55)
    have CR55 := CR53.trans R55
    have hk55 := Nat.le_trans hk53 R55.2.1
    have V55 := Arv.new A55 (by decide)
    have V55a : Arv Z h55 b55 k55 .char (1 : Int32) [(.int (0 : Int32))] (.int (0 : Int32)) := V55.pad (pad_rep [] (.int (0 : Int32)) 1)
    have c55 : Steps p.tables e below S0 (T55.setTop (mkF m 58 #[.val (.int p0), .val (.int p1), .val (.int (1 : Int32)), .val (.int x45), .val (.int x47), .val (.int x49), .val (.int x51), .val (.ref b53), .unset, .unset, .unset, .unset] [(.ref b55)])) := c54.trans (st55 _ (Steps.refl _))
    have c56 : Steps p.tables e below S0 (T55.setTop (mkF m 65 #[.val (.int p0), .val (.int p1), .val (.int (1 : Int32)), .val (.int x45), .val (.int x47), .val (.int x49), .val (.int x51), .val (.ref b53), .val (.ref b55), .unset, .unset, .unset] [(.int (82 : Int32)), (.int (0 : Int32)), (.ref b53)])) := c55.trans (by
      refine XS.astore X55.here hx rfl (hb hby at_58) rfl rfl (l' := #[.val (.int p0), .val (.int p1), .val (.int (1 : Int32)), .val (.int x45), .val (.int x47), .val (.int x49), .val (.int x51), .val (.ref b53), .val (.ref b55), .unset, .unset, .unset]) rfl ?_
      refine XS.aload X55.here hx rfl (hb hby at_60) rfl rfl ?_
      refine XS.iconst X55.here hx rfl (hb hby at_62) ?_
      refine XS.bipush X55.here hx rfl (hb hby at_63) ?_
      exact Steps.refl _)
    obtain ⟨cl57, Ar57, q57, S57, M57, H57, G57⟩ := id (V53a.ext E55)
    have hin57 : ¬ ((0 : Int32) < 0 ∨ cl57.slots.size ≤ ((0 : Int32)).toNatClampNeg) := inb_of S57 ⟨by decide, by decide⟩
    obtain ⟨T57, h57, X57, e57, W57, st57⟩ := stC X55 hx hZ e55 Ar57 (j := (0 : Int32)) hin57 (g := (mkF m 65 #[.val (.int p0), .val (.int p1), .val (.int (1 : Int32)), .val (.int x45), .val (.int x47), .val (.int x49), .val (.int x51), .val (.ref b53), .val (.ref b55), .unset, .unset, .unset] [(.int (82 : Int32)), (.int (0 : Int32)), (.ref b53)])) rfl rfl (hb hby at_65)
    have V57 := Arv.set Ar57 q57 S57 M57 H57 G57 (fits_nar_char _) W57 0 rfl (Nat.le_of_ble_eq_true rfl)
    have N57 := Fr.snoc X57 N0 ge53
    have R57 := CHr.wr W57 (R55.safe V53.lt sf53) CR55.1
    have CR57 := CR55.trans R57
    have hk57 := Nat.le_trans hk55 R57.2.1
    have V57a : Arv Z h57 b53 k53 .char (8 : Int32) [(.int (82 : Int32)), (.int (0 : Int32)), (.int (0 : Int32)), (.int (0 : Int32)), (.int (0 : Int32)), (.int (0 : Int32)), (.int (0 : Int32)), (.int (0 : Int32))] (.int (0 : Int32)) := V57
    have c57 : Steps p.tables e below S0 (T57.setTop (mkF m 66 #[.val (.int p0), .val (.int p1), .val (.int (1 : Int32)), .val (.int x45), .val (.int x47), .val (.int x49), .val (.int x51), .val (.ref b53), .val (.ref b55), .unset, .unset, .unset] [])) := c56.trans (st57 _ (Steps.refl _))
    have c58 : Steps p.tables e below S0 (T57.setTop (mkF m 71 #[.val (.int p0), .val (.int p1), .val (.int (1 : Int32)), .val (.int x45), .val (.int x47), .val (.int x49), .val (.int x51), .val (.ref b53), .val (.ref b55), .unset, .unset, .unset] [(.int (95 : Int32)), (.int (1 : Int32)), (.ref b53)])) := c57.trans (by
      refine XS.aload X57.here hx rfl (hb hby at_66) rfl rfl ?_
      refine XS.iconst X57.here hx rfl (hb hby at_68) ?_
      refine XS.bipush X57.here hx rfl (hb hby at_69) ?_
      exact Steps.refl _)
    obtain ⟨cl59, Ar59, q59, S59, M59, H59, G59⟩ := id V57a
    have hin59 : ¬ ((1 : Int32) < 0 ∨ cl59.slots.size ≤ ((1 : Int32)).toNatClampNeg) := inb_of S59 ⟨by decide, by decide⟩
    obtain ⟨T59, h59, X59, e59, W59, st59⟩ := stC X57 hx hZ e57 Ar59 (j := (1 : Int32)) hin59 (g := (mkF m 71 #[.val (.int p0), .val (.int p1), .val (.int (1 : Int32)), .val (.int x45), .val (.int x47), .val (.int x49), .val (.int x51), .val (.ref b53), .val (.ref b55), .unset, .unset, .unset] [(.int (95 : Int32)), (.int (1 : Int32)), (.ref b53)])) rfl rfl (hb hby at_71)
    have V59 := Arv.set Ar59 q59 S59 M59 H59 G59 (fits_nar_char _) W59 1 rfl (Nat.le_of_ble_eq_true rfl)
    have N59 := Fr.snoc X59 N57 ge53
    have R59 := CHr.wr W59 ((R55.trans R57).safe V53.lt sf53) CR57.1
    have CR59 := CR57.trans R59
    have hk59 := Nat.le_trans hk57 R59.2.1
    have V59a : Arv Z h59 b53 k53 .char (8 : Int32) [(.int (82 : Int32)), (.int (95 : Int32)), (.int (0 : Int32)), (.int (0 : Int32)), (.int (0 : Int32)), (.int (0 : Int32)), (.int (0 : Int32)), (.int (0 : Int32))] (.int (0 : Int32)) := V59
    have c59 : Steps p.tables e below S0 (T59.setTop (mkF m 72 #[.val (.int p0), .val (.int p1), .val (.int (1 : Int32)), .val (.int x45), .val (.int x47), .val (.int x49), .val (.int x51), .val (.ref b53), .val (.ref b55), .unset, .unset, .unset] [])) := c58.trans (st59 _ (Steps.refl _))
    have c60 : Steps p.tables e below S0 (T59.setTop (mkF m 77 #[.val (.int p0), .val (.int p1), .val (.int (1 : Int32)), .val (.int x45), .val (.int x47), .val (.int x49), .val (.int x51), .val (.ref b53), .val (.ref b55), .unset, .unset, .unset] [(.int (95 : Int32)), (.int (2 : Int32)), (.ref b53)])) := c59.trans (by
      refine XS.aload X59.here hx rfl (hb hby at_72) rfl rfl ?_
      refine XS.iconst X59.here hx rfl (hb hby at_74) ?_
      refine XS.bipush X59.here hx rfl (hb hby at_75) ?_
      exact Steps.refl _)
    obtain ⟨cl61, Ar61, q61, S61, M61, H61, G61⟩ := id V59a
    have hin61 : ¬ ((2 : Int32) < 0 ∨ cl61.slots.size ≤ ((2 : Int32)).toNatClampNeg) := inb_of S61 ⟨by decide, by decide⟩
    obtain ⟨T61, h61, X61, e61, W61, st61⟩ := stC X59 hx hZ e59 Ar61 (j := (2 : Int32)) hin61 (g := (mkF m 77 #[.val (.int p0), .val (.int p1), .val (.int (1 : Int32)), .val (.int x45), .val (.int x47), .val (.int x49), .val (.int x51), .val (.ref b53), .val (.ref b55), .unset, .unset, .unset] [(.int (95 : Int32)), (.int (2 : Int32)), (.ref b53)])) rfl rfl (hb hby at_77)
    have V61 := Arv.set Ar61 q61 S61 M61 H61 G61 (fits_nar_char _) W61 2 rfl (Nat.le_of_ble_eq_true rfl)
    have N61 := Fr.snoc X61 N59 ge53
    have R61 := CHr.wr W61 (((R55.trans R57).trans R59).safe V53.lt sf53) CR59.1
    have CR61 := CR59.trans R61
    have hk61 := Nat.le_trans hk59 R61.2.1
    have V61a : Arv Z h61 b53 k53 .char (8 : Int32) [(.int (82 : Int32)), (.int (95 : Int32)), (.int (95 : Int32)), (.int (0 : Int32)), (.int (0 : Int32)), (.int (0 : Int32)), (.int (0 : Int32)), (.int (0 : Int32))] (.int (0 : Int32)) := V61
    have c61 : Steps p.tables e below S0 (T61.setTop (mkF m 78 #[.val (.int p0), .val (.int p1), .val (.int (1 : Int32)), .val (.int x45), .val (.int x47), .val (.int x49), .val (.int x51), .val (.ref b53), .val (.ref b55), .unset, .unset, .unset] [])) := c60.trans (st61 _ (Steps.refl _))
    have c62 : Steps p.tables e below S0 (T61.setTop (mkF m 86 #[.val (.int p0), .val (.int p1), .val (.int (1 : Int32)), .val (.int x45), .val (.int x47), .val (.int x49), .val (.int x51), .val (.ref b53), .val (.ref b55), .unset, .unset, .unset] [(.int x45), (.int (3 : Int32)), (.ref b53)])) := c61.trans (by
      refine XS.iloadN X61.here hx rfl (hb hby at_78) rfl ?_
      refine XS.ifNo X61.here hx rfl (hb hby at_79) rfl ((if0 _ _).trans (tlt (by decide : (0 : Int32) < (1 : Int32))).2.2.2) ?_
      refine XS.aload X61.here hx rfl (hb hby at_82) rfl rfl ?_
      refine XS.iconst X61.here hx rfl (hb hby at_84) ?_
      refine XS.iloadN X61.here hx rfl (hb hby at_85) rfl ?_
      exact Steps.refl _)
    obtain ⟨cl63, Ar63, q63, S63, M63, H63, G63⟩ := id V61a
    have hin63 : ¬ ((3 : Int32) < 0 ∨ cl63.slots.size ≤ ((3 : Int32)).toNatClampNeg) := inb_of S63 ⟨by decide, by decide⟩
    obtain ⟨T63, h63, X63, e63, W63, st63⟩ := stC X61 hx hZ e61 Ar63 (j := (3 : Int32)) hin63 (g := (mkF m 86 #[.val (.int p0), .val (.int p1), .val (.int (1 : Int32)), .val (.int x45), .val (.int x47), .val (.int x49), .val (.int x51), .val (.ref b53), .val (.ref b55), .unset, .unset, .unset] [(.int x45), (.int (3 : Int32)), (.ref b53)])) rfl rfl (hb hby at_86)
    have V63 := Arv.set Ar63 q63 S63 M63 H63 G63 (fits_nar_char _) W63 3 rfl (Nat.le_of_ble_eq_true rfl)
    have N63 := Fr.snoc X63 N61 ge53
    have R63 := CHr.wr W63 ((((R55.trans R57).trans R59).trans R61).safe V53.lt sf53) CR61.1
    have CR63 := CR61.trans R63
    have hk63 := Nat.le_trans hk61 R63.2.1
    rw [hB45.nar] at V63
    have V63a : Arv Z h63 b53 k53 .char (8 : Int32) [(.int (82 : Int32)), (.int (95 : Int32)), (.int (95 : Int32)), (.int x45), (.int (0 : Int32)), (.int (0 : Int32)), (.int (0 : Int32)), (.int (0 : Int32))] (.int (0 : Int32)) := V63
    have c63 : Steps p.tables e below S0 (T63.setTop (mkF m 87 #[.val (.int p0), .val (.int p1), .val (.int (1 : Int32)), .val (.int x45), .val (.int x47), .val (.int x49), .val (.int x51), .val (.ref b53), .val (.ref b55), .unset, .unset, .unset] [])) := c62.trans (st63 _ (Steps.refl _))
    have c64 : Steps p.tables e below S0 (T63.setTop (mkF m 91 #[.val (.int p0), .val (.int p1), .val (.int (1 : Int32)), .val (.int x45), .val (.int x47), .val (.int x49), .val (.int x51), .val (.ref b53), .val (.ref b55), .unset, .unset, .unset] [(.int x45), (.int (0 : Int32)), (.ref b55)])) := c63.trans (by
      refine XS.aload X63.here hx rfl (hb hby at_87) rfl rfl ?_
      refine XS.iconst X63.here hx rfl (hb hby at_89) ?_
      refine XS.iloadN X63.here hx rfl (hb hby at_90) rfl ?_
      exact Steps.refl _)
    obtain ⟨cl65, Ar65, q65, S65, M65, H65, G65⟩ := id ((((V55a.other W57 (Ne.symm (Nat.ne_of_lt (Nat.lt_of_lt_of_le V53.lt lo55)))).other W59 (Ne.symm (Nat.ne_of_lt (Nat.lt_of_lt_of_le V53.lt lo55)))).other W61 (Ne.symm (Nat.ne_of_lt (Nat.lt_of_lt_of_le V53.lt lo55)))).other W63 (Ne.symm (Nat.ne_of_lt (Nat.lt_of_lt_of_le V53.lt lo55))))
    have hin65 : ¬ ((0 : Int32) < 0 ∨ cl65.slots.size ≤ ((0 : Int32)).toNatClampNeg) := inb_of S65 ⟨by decide, by decide⟩
    obtain ⟨T65, h65, X65, e65, W65, st65⟩ := stC X63 hx hZ e63 Ar65 (j := (0 : Int32)) hin65 (g := (mkF m 91 #[.val (.int p0), .val (.int p1), .val (.int (1 : Int32)), .val (.int x45), .val (.int x47), .val (.int x49), .val (.int x51), .val (.ref b53), .val (.ref b55), .unset, .unset, .unset] [(.int x45), (.int (0 : Int32)), (.ref b55)])) rfl rfl (hb hby at_91)
    have V65 := Arv.set Ar65 q65 S65 M65 H65 G65 (fits_nar_char _) W65 0 rfl (Nat.le_of_ble_eq_true rfl)
    have N65 := Fr.snoc X65 N63 ge55
    have R65 := CHr.wr W65 ((((R57.trans R59).trans R61).trans R63).safe V55.lt sf55) CR63.1
    have CR65 := CR63.trans R65
    have hk65 := Nat.le_trans hk63 R65.2.1
    rw [hB45.nar] at V65
    have V65a : Arv Z h65 b55 k55 .char (1 : Int32) [(.int x45)] (.int (0 : Int32)) := V65
    have c65 : Steps p.tables e below S0 (T65.setTop (mkF m 92 #[.val (.int p0), .val (.int p1), .val (.int (1 : Int32)), .val (.int x45), .val (.int x47), .val (.int x49), .val (.int x51), .val (.ref b53), .val (.ref b55), .unset, .unset, .unset] [])) := c64.trans (st65 _ (Steps.refl _))
    have c66 : Steps p.tables e below S0 (T65.setTop (mkF m 151 #[.val (.int p0), .val (.int p1), .val (.int (1 : Int32)), .val (.int x45), .val (.int x47), .val (.int x49), .val (.int x51), .val (.ref b53), .val (.ref b55), .unset, .unset, .unset] [(.int (46 : Int32)), (.int (4 : Int32)), (.ref b53)])) := c65.trans (by
      refine XS.iloadN X65.here hx rfl (hb hby at_92) rfl ?_
      refine XS.iconst X65.here hx rfl (hb hby at_93) ?_
      refine XS.icmpYes X65.here hx rfl (pc0 := 94) (pc' := 109) rfl (hb hby at_94) rfl (flt (by decide : ¬ ((1 : Int32) < (1 : Int32)))).2.2.2 (by decide) (by decide) ?_
      refine XS.iloadN X65.here hx rfl (hb hby at_109) rfl ?_
      refine XS.iconst X65.here hx rfl (hb hby at_110) ?_
      refine XS.icmpYes X65.here hx rfl (pc0 := 111) (pc' := 126) rfl (hb hby at_111) rfl (flt (by decide : ¬ ((2 : Int32) < (1 : Int32)))).2.2.2 (by decide) (by decide) ?_
      refine XS.iloadN X65.here hx rfl (hb hby at_126) rfl ?_
      refine XS.iconst X65.here hx rfl (hb hby at_127) ?_
      refine XS.icmpYes X65.here hx rfl (pc0 := 128) (pc' := 144) rfl (hb hby at_128) rfl (flt (by decide : ¬ ((3 : Int32) < (1 : Int32)))).2.2.2 (by decide) (by decide) ?_
      refine XS.aload X65.here hx rfl (hb hby at_144) rfl rfl ?_
      refine XS.iconst X65.here hx rfl (hb hby at_146) ?_
      refine XS.iloadN X65.here hx rfl (hb hby at_147) rfl ?_
      refine XS.iadd X65.here hx rfl (hb hby at_148) rfl ?_
      refine XS.bipush X65.here hx rfl (hb hby at_149) ?_
      exact Steps.refl _)
    obtain ⟨cl67, Ar67, q67, S67, M67, H67, G67⟩ := id (V63a.other W65 (Nat.ne_of_lt (Nat.lt_of_lt_of_le V53.lt lo55)))
    have hin67 : ¬ ((4 : Int32) < 0 ∨ cl67.slots.size ≤ ((4 : Int32)).toNatClampNeg) := inb_of S67 ⟨by decide, by decide⟩
    obtain ⟨T67, h67, X67, e67, W67, st67⟩ := stC X65 hx hZ e65 Ar67 (j := (4 : Int32)) hin67 (g := (mkF m 151 #[.val (.int p0), .val (.int p1), .val (.int (1 : Int32)), .val (.int x45), .val (.int x47), .val (.int x49), .val (.int x51), .val (.ref b53), .val (.ref b55), .unset, .unset, .unset] [(.int (46 : Int32)), (.int (4 : Int32)), (.ref b53)])) rfl rfl (hb hby at_151)
    have V67 := Arv.set Ar67 q67 S67 M67 H67 G67 (fits_nar_char _) W67 4 rfl (Nat.le_of_ble_eq_true rfl)
    have N67 := Fr.snoc X67 N65 ge53
    have R67 := CHr.wr W67 ((((((R55.trans R57).trans R59).trans R61).trans R63).trans R65).safe V53.lt sf53) CR65.1
    have CR67 := CR65.trans R67
    have hk67 := Nat.le_trans hk65 R67.2.1
    have V67a : Arv Z h67 b53 k53 .char (8 : Int32) [(.int (82 : Int32)), (.int (95 : Int32)), (.int (95 : Int32)), (.int x45), (.int (46 : Int32)), (.int (0 : Int32)), (.int (0 : Int32)), (.int (0 : Int32))] (.int (0 : Int32)) := V67
    have c67 : Steps p.tables e below S0 (T67.setTop (mkF m 152 #[.val (.int p0), .val (.int p1), .val (.int (1 : Int32)), .val (.int x45), .val (.int x47), .val (.int x49), .val (.int x51), .val (.ref b53), .val (.ref b55), .unset, .unset, .unset] [])) := c66.trans (st67 _ (Steps.refl _))
    have c68 : Steps p.tables e below S0 (T67.setTop (mkF m 159 #[.val (.int p0), .val (.int p1), .val (.int (1 : Int32)), .val (.int x45), .val (.int x47), .val (.int x49), .val (.int x51), .val (.ref b53), .val (.ref b55), .unset, .unset, .unset] [(.int (115 : Int32)), (.int (5 : Int32)), (.ref b53)])) := c67.trans (by
      refine XS.aload X67.here hx rfl (hb hby at_152) rfl rfl ?_
      refine XS.iconst X67.here hx rfl (hb hby at_154) ?_
      refine XS.iloadN X67.here hx rfl (hb hby at_155) rfl ?_
      refine XS.iadd X67.here hx rfl (hb hby at_156) rfl ?_
      refine XS.bipush X67.here hx rfl (hb hby at_157) ?_
      exact Steps.refl _)
    obtain ⟨cl69, Ar69, q69, S69, M69, H69, G69⟩ := id V67a
    have hin69 : ¬ ((5 : Int32) < 0 ∨ cl69.slots.size ≤ ((5 : Int32)).toNatClampNeg) := inb_of S69 ⟨by decide, by decide⟩
    obtain ⟨T69, h69, X69, e69, W69, st69⟩ := stC X67 hx hZ e67 Ar69 (j := (5 : Int32)) hin69 (g := (mkF m 159 #[.val (.int p0), .val (.int p1), .val (.int (1 : Int32)), .val (.int x45), .val (.int x47), .val (.int x49), .val (.int x51), .val (.ref b53), .val (.ref b55), .unset, .unset, .unset] [(.int (115 : Int32)), (.int (5 : Int32)), (.ref b53)])) rfl rfl (hb hby at_159)
    have V69 := Arv.set Ar69 q69 S69 M69 H69 G69 (fits_nar_char _) W69 5 rfl (Nat.le_of_ble_eq_true rfl)
    have N69 := Fr.snoc X69 N67 ge53
    have R69 := CHr.wr W69 (((((((R55.trans R57).trans R59).trans R61).trans R63).trans R65).trans R67).safe V53.lt sf53) CR67.1
    have CR69 := CR67.trans R69
    have hk69 := Nat.le_trans hk67 R69.2.1
    have V69a : Arv Z h69 b53 k53 .char (8 : Int32) [(.int (82 : Int32)), (.int (95 : Int32)), (.int (95 : Int32)), (.int x45), (.int (46 : Int32)), (.int (115 : Int32)), (.int (0 : Int32)), (.int (0 : Int32))] (.int (0 : Int32)) := V69
    have c69 : Steps p.tables e below S0 (T69.setTop (mkF m 160 #[.val (.int p0), .val (.int p1), .val (.int (1 : Int32)), .val (.int x45), .val (.int x47), .val (.int x49), .val (.int x51), .val (.ref b53), .val (.ref b55), .unset, .unset, .unset] [])) := c68.trans (st69 _ (Steps.refl _))
    have c70 : Steps p.tables e below S0 (T69.setTop (mkF m 167 #[.val (.int p0), .val (.int p1), .val (.int (1 : Int32)), .val (.int x45), .val (.int x47), .val (.int x49), .val (.int x51), .val (.ref b53), .val (.ref b55), .unset, .unset, .unset] [(.int (113 : Int32)), (.int (6 : Int32)), (.ref b53)])) := c69.trans (by
      refine XS.aload X69.here hx rfl (hb hby at_160) rfl rfl ?_
      refine XS.iconst X69.here hx rfl (hb hby at_162) ?_
      refine XS.iloadN X69.here hx rfl (hb hby at_163) rfl ?_
      refine XS.iadd X69.here hx rfl (hb hby at_164) rfl ?_
      refine XS.bipush X69.here hx rfl (hb hby at_165) ?_
      exact Steps.refl _)
    obtain ⟨cl71, Ar71, q71, S71, M71, H71, G71⟩ := id V69a
    have hin71 : ¬ ((6 : Int32) < 0 ∨ cl71.slots.size ≤ ((6 : Int32)).toNatClampNeg) := inb_of S71 ⟨by decide, by decide⟩
    obtain ⟨T71, h71, X71, e71, W71, st71⟩ := stC X69 hx hZ e69 Ar71 (j := (6 : Int32)) hin71 (g := (mkF m 167 #[.val (.int p0), .val (.int p1), .val (.int (1 : Int32)), .val (.int x45), .val (.int x47), .val (.int x49), .val (.int x51), .val (.ref b53), .val (.ref b55), .unset, .unset, .unset] [(.int (113 : Int32)), (.int (6 : Int32)), (.ref b53)])) rfl rfl (hb hby at_167)
    have V71 := Arv.set Ar71 q71 S71 M71 H71 G71 (fits_nar_char _) W71 6 rfl (Nat.le_of_ble_eq_true rfl)
    have N71 := Fr.snoc X71 N69 ge53
    have R71 := CHr.wr W71 ((((((((R55.trans R57).trans R59).trans R61).trans R63).trans R65).trans R67).trans R69).safe V53.lt sf53) CR69.1
    have CR71 := CR69.trans R71
    have hk71 := Nat.le_trans hk69 R71.2.1
    have V71a : Arv Z h71 b53 k53 .char (8 : Int32) [(.int (82 : Int32)), (.int (95 : Int32)), (.int (95 : Int32)), (.int x45), (.int (46 : Int32)), (.int (115 : Int32)), (.int (113 : Int32)), (.int (0 : Int32))] (.int (0 : Int32)) := V71
    have c71 : Steps p.tables e below S0 (T71.setTop (mkF m 168 #[.val (.int p0), .val (.int p1), .val (.int (1 : Int32)), .val (.int x45), .val (.int x47), .val (.int x49), .val (.int x51), .val (.ref b53), .val (.ref b55), .unset, .unset, .unset] [])) := c70.trans (st71 _ (Steps.refl _))
    have c72 : Steps p.tables e below S0 (T71.setTop (mkF m 176 #[.val (.int p0), .val (.int p1), .val (.int (1 : Int32)), .val (.int x45), .val (.int x47), .val (.int x49), .val (.int x51), .val (.ref b53), .val (.ref b55), .unset, .unset, .unset] [(.int (108 : Int32)), (.int (7 : Int32)), (.ref b53)])) := c71.trans (by
      refine XS.aload X71.here hx rfl (hb hby at_168) rfl rfl ?_
      refine XS.bipush X71.here hx rfl (hb hby at_170) ?_
      refine XS.iloadN X71.here hx rfl (hb hby at_172) rfl ?_
      refine XS.iadd X71.here hx rfl (hb hby at_173) rfl ?_
      refine XS.bipush X71.here hx rfl (hb hby at_174) ?_
      exact Steps.refl _)
    obtain ⟨cl73, Ar73, q73, S73, M73, H73, G73⟩ := id V71a
    have hin73 : ¬ ((7 : Int32) < 0 ∨ cl73.slots.size ≤ ((7 : Int32)).toNatClampNeg) := inb_of S73 ⟨by decide, by decide⟩
    obtain ⟨T73, h73, X73, e73, W73, st73⟩ := stC X71 hx hZ e71 Ar73 (j := (7 : Int32)) hin73 (g := (mkF m 176 #[.val (.int p0), .val (.int p1), .val (.int (1 : Int32)), .val (.int x45), .val (.int x47), .val (.int x49), .val (.int x51), .val (.ref b53), .val (.ref b55), .unset, .unset, .unset] [(.int (108 : Int32)), (.int (7 : Int32)), (.ref b53)])) rfl rfl (hb hby at_176)
    have V73 := Arv.set Ar73 q73 S73 M73 H73 G73 (fits_nar_char _) W73 7 rfl (Nat.le_of_ble_eq_true rfl)
    have N73 := Fr.snoc X73 N71 ge53
    have R73 := CHr.wr W73 (((((((((R55.trans R57).trans R59).trans R61).trans R63).trans R65).trans R67).trans R69).trans R71).safe V53.lt sf53) CR71.1
    have CR73 := CR71.trans R73
    have hk73 := Nat.le_trans hk71 R73.2.1
    have V73a : Arv Z h73 b53 k53 .char (8 : Int32) [(.int (82 : Int32)), (.int (95 : Int32)), (.int (95 : Int32)), (.int x45), (.int (46 : Int32)), (.int (115 : Int32)), (.int (113 : Int32)), (.int (108 : Int32))] (.int (0 : Int32)) := V73
    have c73 : Steps p.tables e below S0 (T73.setTop (mkF m 177 #[.val (.int p0), .val (.int p1), .val (.int (1 : Int32)), .val (.int x45), .val (.int x47), .val (.int x49), .val (.int x51), .val (.ref b53), .val (.ref b55), .unset, .unset, .unset] [])) := c72.trans (st73 _ (Steps.refl _))
    obtain ⟨T74, h74, X74, e74, E74, A74, D74, -, st74⟩ := newO X73 hx hZ hown (hw _ (List.mem_of_getElem? (i := 2) rfl)) (hw _ (List.mem_of_getElem? (i := 3) rfl)) (hw _ (List.mem_of_getElem? (i := 4) rfl)) e73 (g := (mkF m 177 #[.val (.int p0), .val (.int p1), .val (.int (1 : Int32)), .val (.int x45), .val (.int x47), .val (.int x49), .val (.int x51), .val (.ref b53), .val (.ref b55), .unset, .unset, .unset] [])) rfl (hb hby at_177) (by decide) (by decide)
    obtain ⟨b74, g74⟩ : ∃ z, z = h73.size := ⟨_, rfl⟩
    rw [← g74] at A74 D74 st74
    have lo74 : h73.size ≤ b74 := Nat.le_of_eq g74.symm
    have ge74 : Z.heap.size ≤ b74 := Nat.le_trans (((((((((((O0.ext E53).ext E55).wr W57 ge53).wr W59 ge53).wr W61 ge53).wr W63 ge53).wr W65 ge55).wr W67 ge53).wr W69 ge53).wr W71 ge53).wr W73 ge53).2.1 lo74
    have R74 := CHr.ext (EL := EL) E74 CR73.1
    have sf74 := Safe.ext E74 CR73.1 (Safe.new lo74)
    have CR74 := CR73.trans R74
    have hk74 := Nat.le_trans hk73 R74.2.1
    have F74_coder : Fld Z h74 b74 "java/lang/String" "coder" "B" (.int (0 : Int32)) := D74 (Or.inr (hw _ (List.mem_of_getElem? (i := 28) rfl))) (ty := .byte) (by decide)
    have F74_value : Fld Z h74 b74 "java/lang/String" "value" "[B" .null := D74 (Or.inr (hw _ (List.mem_of_getElem? (i := 30) rfl))) (ty := (.array .byte)) (by decide)
    have c74 : Steps p.tables e below S0 (T74.setTop (mkF m 180 #[.val (.int p0), .val (.int p1), .val (.int (1 : Int32)), .val (.int x45), .val (.int x47), .val (.int x49), .val (.int x51), .val (.ref b53), .val (.ref b55), .unset, .unset, .unset] [(.ref b74)])) := c73.trans (st74 _ (Steps.refl _))
    have c75 : Steps p.tables e below S0 (T74.setTop (mkF m 183 #[.val (.int p0), .val (.int p1), .val (.int (1 : Int32)), .val (.int x45), .val (.int x47), .val (.int x49), .val (.int x51), .val (.ref b53), .val (.ref b55), .unset, .unset, .unset] [(.ref b53), (.ref b74), (.ref b74)])) := c74.trans (by
      refine XS.dup X74.here hx rfl (hb hby at_180) rfl rfl ?_
      refine XS.aload X74.here hx rfl (hb hby at_181) rfl rfl ?_
      exact Steps.refl _)
    obtain ⟨v76, T76, L76, X76, ⟨rfl, N76', K76, E76, Cd76, t76, kb76, gt76, lo76, ne76, V76, Kb76⟩, c76'⟩ := own_spec X74 hx hml hZ hown rfl (hw _ (List.mem_of_getElem? (i := 5) rfl)) (hw _ (List.mem_of_getElem? (i := 6) rfl)) (hw _ (List.mem_of_getElem? (i := 7) rfl)) (by decide) (Q := StrChars.Road.QV Z b74 (8 : Int32) (([(82 : Int32), (95 : Int32), (95 : Int32), x45, (46 : Int32), (115 : Int32), (113 : Int32), (108 : Int32)] : List Int32).map (fun c : Int32 => c.toInt8.toInt32)) h74 Z.heap.size) (kc := 1) (ks := 8) (h := h74) (W := 1) (b := b74) (argsL := [(.ref b53)]) (rest := [(.ref b74)]) (StrChars.Road.backV (s := (s.setVm s.vm)) (R := room_1) (W := 1) hZ (own_wi hw) (kI := 4) (hw _ (List.mem_of_getElem? (i := 3) rfl)) (cs := [(82 : Int32), (95 : Int32), (95 : Int32), x45, (46 : Int32), (115 : Int32), (113 : Int32), (108 : Int32)]) (bs := ([(82 : Int32), (95 : Int32), (95 : Int32), x45, (46 : Int32), (115 : Int32), (113 : Int32), (108 : Int32)] : List Int32).map (fun c : Int32 => c.toInt8.toInt32)) (n := 8) ge74 ((((((((((((O0.ext E53).ext E55).wr W57 ge53).wr W59 ge53).wr W61 ge53).wr W63 ge53).wr W65 ge55).wr W67 ge53).wr W69 ge53).wr W71 ge53).wr W73 ge53).ext E74).2.1 A74 F74_value F74_coder (V73a.ext E74) (SC.ext ((((((((((((O0.ext E53).ext E55).wr W57 ge53).wr W59 ge53).wr W61 ge53).wr W63 ge53).wr W65 ge55).wr W67 ge53).wr W69 ge53).wr W71 ge53).wr W73 ge53).ext E74).2) hz rfl rfl (by decide) (by decide) (fun c hc => ((own_cons (own_Bl 82 (by decide)) (own_cons (own_Bl 95 (by decide)) (own_cons (own_Bl 95 (by decide)) (own_cons hB45 (own_cons (own_Bl 46 (by decide)) (own_cons (own_Bl 115 (by decide)) (own_cons (own_Bl 113 (by decide)) (own_cons (own_Bl 108 (by decide)) own_nil)))))))) c hc).rng) rfl (by decide) (by decide)) c75 rfl rfl (lenOf pd_10 rfl) rfl (by show 2 * 0 + _ ≤ _; exact Nat.le_of_eq rfl) (hb hby at_183) e74 (by decide) (by decide)
    have N76 := Fr.app N73 N76'
    have R76 := CHr.keep K76 (sfS sf74 sf0) CR74.1
    have CR76 := CR74.trans R76
    have hk76 := Nat.le_trans hk74 R76.2.1
    have c76 : Steps p.tables e below S0 (T76.setTop (mkF m 186 #[.val (.int p0), .val (.int p1), .val (.int (1 : Int32)), .val (.int x45), .val (.int x47), .val (.int x49), .val (.int x51), .val (.ref b53), .val (.ref b55), .unset, .unset, .unset] [(.ref b74)])) := c76'
    have c77 : Steps p.tables e below S0 (T76.setTop (mkF m 188 #[.val (.int p0), .val (.int p1), .val (.int (1 : Int32)), .val (.int x45), .val (.int x47), .val (.int x49), .val (.int x51), .val (.ref b53), .val (.ref b55), .val (.ref b74), .unset, .unset] [])) := c76.trans (by
      refine XS.astore X76.here hx rfl (hb hby at_186) rfl rfl (l' := #[.val (.int p0), .val (.int p1), .val (.int (1 : Int32)), .val (.int x45), .val (.int x47), .val (.int x49), .val (.int x51), .val (.ref b53), .val (.ref b55), .val (.ref b74), .unset, .unset]) rfl ?_
      exact Steps.refl _)
    obtain ⟨T78, h78, X78, e78, E78, A78, D78, -, st78⟩ := newO X76 hx hZ hown (hw _ (List.mem_of_getElem? (i := 2) rfl)) (hw _ (List.mem_of_getElem? (i := 3) rfl)) (hw _ (List.mem_of_getElem? (i := 4) rfl)) rfl (g := (mkF m 188 #[.val (.int p0), .val (.int p1), .val (.int (1 : Int32)), .val (.int x45), .val (.int x47), .val (.int x49), .val (.int x51), .val (.ref b53), .val (.ref b55), .val (.ref b74), .unset, .unset] [])) rfl (hb hby at_188) (by decide) (by decide)
    obtain ⟨b78, g78⟩ : ∃ z, z = T76.heap.size := ⟨_, rfl⟩
    rw [← g78] at A78 D78 st78
    have lo78 : T76.heap.size ≤ b78 := Nat.le_of_eq g78.symm
    have ge78 : Z.heap.size ≤ b78 := Nat.le_trans (((((((((((((O0.ext E53).ext E55).wr W57 ge53).wr W59 ge53).wr W61 ge53).wr W63 ge53).wr W65 ge55).wr W67 ge53).wr W69 ge53).wr W71 ge53).wr W73 ge53).ext E74).keep K76 (allS ge74 all0)).2.1 lo78
    have R78 := CHr.ext (EL := EL) E78 CR76.1
    have sf78 := Safe.ext E78 CR76.1 (Safe.new lo78)
    have CR78 := CR76.trans R78
    have hk78 := Nat.le_trans hk76 R78.2.1
    have F78_coder : Fld Z h78 b78 "java/lang/String" "coder" "B" (.int (0 : Int32)) := D78 (Or.inr (hw _ (List.mem_of_getElem? (i := 28) rfl))) (ty := .byte) (by decide)
    have F78_value : Fld Z h78 b78 "java/lang/String" "value" "[B" .null := D78 (Or.inr (hw _ (List.mem_of_getElem? (i := 30) rfl))) (ty := (.array .byte)) (by decide)
    have c78 : Steps p.tables e below S0 (T78.setTop (mkF m 191 #[.val (.int p0), .val (.int p1), .val (.int (1 : Int32)), .val (.int x45), .val (.int x47), .val (.int x49), .val (.int x51), .val (.ref b53), .val (.ref b55), .val (.ref b74), .unset, .unset] [(.ref b78)])) := c77.trans (st78 _ (Steps.refl _))
    have c79 : Steps p.tables e below S0 (T78.setTop (mkF m 194 #[.val (.int p0), .val (.int p1), .val (.int (1 : Int32)), .val (.int x45), .val (.int x47), .val (.int x49), .val (.int x51), .val (.ref b53), .val (.ref b55), .val (.ref b74), .unset, .unset] [(.ref b55), (.ref b78), (.ref b78)])) := c78.trans (by
      refine XS.dup X78.here hx rfl (hb hby at_191) rfl rfl ?_
      refine XS.aload X78.here hx rfl (hb hby at_192) rfl rfl ?_
      exact Steps.refl _)
    obtain ⟨v80, T80, L80, X80, ⟨rfl, N80', K80, E80, Cd80, t80, kb80, gt80, lo80, ne80, V80, Kb80⟩, c80'⟩ := own_spec X78 hx hml hZ hown rfl (hw _ (List.mem_of_getElem? (i := 5) rfl)) (hw _ (List.mem_of_getElem? (i := 6) rfl)) (hw _ (List.mem_of_getElem? (i := 7) rfl)) (by decide) (Q := StrChars.Road.QV Z b78 (1 : Int32) (([x45] : List Int32).map (fun c : Int32 => c.toInt8.toInt32)) h78 Z.heap.size) (kc := 1) (ks := 1) (h := h78) (W := 1) (b := b78) (argsL := [(.ref b55)]) (rest := [(.ref b78)]) (StrChars.Road.backV (s := (s.setVm s.vm)) (R := room_1) (W := 1) hZ (own_wi hw) (kI := 4) (hw _ (List.mem_of_getElem? (i := 3) rfl)) (cs := [x45]) (bs := ([x45] : List Int32).map (fun c : Int32 => c.toInt8.toInt32)) (n := 1) ge78 ((((((((((((((O0.ext E53).ext E55).wr W57 ge53).wr W59 ge53).wr W61 ge53).wr W63 ge53).wr W65 ge55).wr W67 ge53).wr W69 ge53).wr W71 ge53).wr W73 ge53).ext E74).keep K76 (allS ge74 all0)).ext E78).2.1 A78 F78_value F78_coder (((((((V65a.other W67 (Ne.symm (Nat.ne_of_lt (Nat.lt_of_lt_of_le V53.lt lo55)))).other W69 (Ne.symm (Nat.ne_of_lt (Nat.lt_of_lt_of_le V53.lt lo55)))).other W71 (Ne.symm (Nat.ne_of_lt (Nat.lt_of_lt_of_le V53.lt lo55)))).other W73 (Ne.symm (Nat.ne_of_lt (Nat.lt_of_lt_of_le V53.lt lo55)))).ext E74).keep K76 (ninS (Nat.ne_of_lt (Nat.lt_of_lt_of_le (Nat.lt_of_lt_of_le V55.lt (Nat.le_trans (Nat.le_trans (Nat.le_trans (Nat.le_trans (Nat.le_trans (Nat.le_trans (Nat.le_trans (Nat.le_trans (Keep.of_wr W57).1 (Keep.of_wr W59).1) (Keep.of_wr W61).1) (Keep.of_wr W63).1) (Keep.of_wr W65).1) (Keep.of_wr W67).1) (Keep.of_wr W69).1) (Keep.of_wr W71).1) (Keep.of_wr W73).1)) lo74)) nin0)).ext E78) (SC.ext ((((((((((((((O0.ext E53).ext E55).wr W57 ge53).wr W59 ge53).wr W61 ge53).wr W63 ge53).wr W65 ge55).wr W67 ge53).wr W69 ge53).wr W71 ge53).wr W73 ge53).ext E74).keep K76 (allS ge74 all0)).ext E78).2) hz rfl rfl (by decide) (by decide) (fun c hc => ((own_cons hB45 own_nil) c hc).rng) rfl (by decide) (by decide)) c79 rfl rfl (lenOf pd_10 rfl) rfl (by show 2 * 0 + _ ≤ _; exact Nat.le_of_eq rfl) (hb hby at_194) e78 (by decide) (by decide)
    have N80 := Fr.app N76 N80'
    have R80 := CHr.keep K80 (sfS sf78 sf0) CR78.1
    have CR80 := CR78.trans R80
    have hk80 := Nat.le_trans hk78 R80.2.1
    have c80 : Steps p.tables e below S0 (T80.setTop (mkF m 197 #[.val (.int p0), .val (.int p1), .val (.int (1 : Int32)), .val (.int x45), .val (.int x47), .val (.int x49), .val (.int x51), .val (.ref b53), .val (.ref b55), .val (.ref b74), .unset, .unset] [(.ref b78)])) := c80'
    have c81 : Steps p.tables e below S0 (T80.setTop (mkF m 201 #[.val (.int p0), .val (.int p1), .val (.int (1 : Int32)), .val (.int x45), .val (.int x47), .val (.int x49), .val (.int x51), .val (.ref b53), .val (.ref b55), .val (.ref b74), .val (.ref b78), .unset] [(.ref b74)])) := c80.trans (by
      refine XS.astore X80.here hx rfl (hb hby at_197) rfl rfl (l' := #[.val (.int p0), .val (.int p1), .val (.int (1 : Int32)), .val (.int x45), .val (.int x47), .val (.int x49), .val (.int x51), .val (.ref b53), .val (.ref b55), .val (.ref b74), .val (.ref b78), .unset]) rfl ?_
      refine XS.aload X80.here hx rfl (hb hby at_199) rfl rfl ?_
      exact Steps.refl _)
    obtain ⟨v82, T82, L82, X82, hS82, hZ82, hown82, R82, ⟨N82', x82, t82, kb82, rfl, K82, E82, V82, Cd82, Kb82⟩, c82'⟩ := own_wstat X80 hx hml hZ hown hS0 hk80 (hw _ (List.mem_of_getElem? (i := 34) rfl)) (hw _ (List.mem_of_getElem? (i := 35) rfl)) (hw _ (List.mem_of_getElem? (i := 36) rfl)) (hw _ (List.mem_of_getElem? (i := 37) rfl)) (by decide) (kc := 10) (ks := 100) (h := T80.heap) (W := 0) (argsL := [(.ref b74)]) (rest := []) (own_wpay (W := 0) (rmRN1 l Z a0 hw hEL b74 t76 kb76 x45 x47 x49 x51 z fm T80.heap (((((((((((((((O0.ext E53).ext E55).wr W57 ge53).wr W59 ge53).wr W61 ge53).wr W63 ge53).wr W65 ge55).wr W67 ge53).wr W69 ge53).wr W71 ge53).wr W73 ge53).ext E74).keep K76 (allS ge74 all0)).ext E78).keep K80 (allS ge78 all0)) ((E76.ext E78).keep K80) ((V76.ext E78).keep K80 (ninS (Nat.ne_of_lt (Nat.lt_of_lt_of_le (Nat.lt_of_lt_of_le A74.lt K76.1) lo78)) nin0)) ((Cd76.ext E78).keep K80 (ninS (Nat.ne_of_lt (Nat.lt_of_lt_of_le (Nat.lt_of_lt_of_le A74.lt K76.1) lo78)) nin0)) ((Kb76.ext E78).keep K80 (ninS (Nat.ne_of_lt (Nat.lt_of_lt_of_le Kb76.lt lo78)) nin0)) hB45 hB47 hB49 hB51 SC hz SF hfm) hZ (hw _ (List.mem_of_getElem? (i := 37) rfl)) (hw _ (List.mem_of_getElem? (i := 36) rfl)) (by decide) (by decide) hEL CR80.1 all0) c81 rfl rfl (lenOf pd_12 rfl) rfl (by show 2 * 0 + _ ≤ _; exact Nat.le_of_eq rfl) (hb hby at_201) rfl (by decide) (by decide)
    have N82 := Fr.app N80 N82'
    have CR82 := CR80.trans R82
    have c82 : Steps p.tables e below S0 (T82.setTop (mkF m 204 #[.val (.int p0), .val (.int p1), .val (.int (1 : Int32)), .val (.int x45), .val (.int x47), .val (.int x49), .val (.int x51), .val (.ref b53), .val (.ref b55), .val (.ref b74), .val (.ref b78), .unset] [(.ref x82)])) := c82'
    have c83 : Steps p.tables e below S0 (T82.setTop (mkF m 210 #[.val (.int p0), .val (.int p1), .val (.int (1 : Int32)), .val (.int x45), .val (.int x47), .val (.int x49), .val (.int x51), .val (.ref b53), .val (.ref b55), .val (.ref b74), .val (.ref b78), .val (.ref x82)] [(.ref b78), (.ref x82)])) := c82.trans (by
      refine XS.astore X82.here hx rfl (hb hby at_204) rfl rfl (l' := #[.val (.int p0), .val (.int p1), .val (.int (1 : Int32)), .val (.int x45), .val (.int x47), .val (.int x49), .val (.int x51), .val (.ref b53), .val (.ref b55), .val (.ref b74), .val (.ref b78), .val (.ref x82)]) rfl ?_
      refine XS.aload X82.here hx rfl (hb hby at_206) rfl rfl ?_
      refine XS.aload X82.here hx rfl (hb hby at_208) rfl rfl ?_
      exact Steps.refl _)
    obtain ⟨v84, T84, L84, X84, ⟨hv84, rfl, e84⟩, c84'⟩ := own_virt X82 hx hml hZ82 hown82 (hw _ (List.mem_of_getElem? (i := 74) rfl)) (hw _ (List.mem_of_getElem? (i := 75) rfl)) (hw _ (List.mem_of_getElem? (i := 77) rfl)) (hw _ (List.mem_of_getElem? (i := 76) rfl)) (hw _ (List.mem_of_getElem? (i := 77) rfl)) (by decide) (Q := fun v h' L => ((v = some (.int 1) ∧ ([x45] : List Int32) = [x45]) ∨ (v = some (.int 0) ∧ ¬ ([x45] : List Int32) = [x45])) ∧ L = [] ∧ h' = T82.heap) (kc := 0) (ks := 0) (h := T82.heap) (W := 0) (b := x82) (argsL := [(.ref b78)]) (rest := []) (StrChars.Road.eqW (s := (s.setVm T82.vm)) (R := room_1) (W := 0) hZ82 (own_we hw) (kI := 4) (hw _ (List.mem_of_getElem? (i := 3) rfl)) (cs := [x45]) E82 V82 Cd82 Kb82 (StrChars.Road.codOf (n := ([x45] : List Int32).length) rfl (fun c hc => ((own_cons hB45 own_nil) c hc).rng.2)) (fun c hc => ((own_cons hB45 own_nil) c hc).rng2) (Nat.le_of_ble_eq_true rfl) (ds := [x45]) (E80.keep K82) (V80.keep K82 nin0) (Cd80.keep K82 nin0) (Kb80.keep K82 nin0) (StrChars.Road.codOf (n := ([x45] : List Int32).length) rfl (fun c hc => ((own_cons hB45 own_nil) c hc).rng.2)) (fun c hc => ((own_cons hB45 own_nil) c hc).rng2) (Nat.le_of_ble_eq_true rfl) (SC.ext ((((((((((((((((O0.ext E53).ext E55).wr W57 ge53).wr W59 ge53).wr W61 ge53).wr W63 ge53).wr W65 ge55).wr W67 ge53).wr W69 ge53).wr W71 ge53).wr W73 ge53).ext E74).keep K76 (allS ge74 all0)).ext E78).keep K80 (allS ge78 all0)).keep K82 all0).2) hz (by decide) (by decide)) E82 c83 rfl rfl (lenOf pd_13 rfl) rfl (by show 2 * 0 + _ ≤ _; exact Nat.le_of_eq rfl) (hb hby at_210) rfl (by decide) (by decide)
    have N84 := Fr.app N82 (Fr.nil _)
    rcases hv84 with ⟨rfl, hq84⟩ | ⟨rfl, hq84⟩
    · skip
      have c84 : Steps p.tables e below S0 (T84.setTop (mkF m 213 #[.val (.int p0), .val (.int p1), .val (.int (1 : Int32)), .val (.int x45), .val (.int x47), .val (.int x49), .val (.int x51), .val (.ref b53), .val (.ref b55), .val (.ref b74), .val (.ref b78), .val (.ref x82)] [(.int (1 : Int32))])) := c84'
      refine ⟨T84, T82.vm, _, (some (.int (1 : Int32))), _, _, _, X84, by decide, by decide, (fun q => by cases q), N84, hS82, by rw [e84]; exact (Nat.le_refl _), hZ82, by rw [e84]; exact CR82, ?_, fun fs hr => ?_⟩
      · skip
        exact rfl
      · exact c84.trans (retN X84 hx (t := .boolean) hret (by simp) (hb hby at_213) hr)
    · skip
      have c84 : Steps p.tables e below S0 (T84.setTop (mkF m 213 #[.val (.int p0), .val (.int p1), .val (.int (1 : Int32)), .val (.int x45), .val (.int x47), .val (.int x49), .val (.int x51), .val (.ref b53), .val (.ref b55), .val (.ref b74), .val (.ref b78), .val (.ref x82)] [(.int (0 : Int32))])) := c84'
      exact absurd rfl hq84
  · skip
    have c86 : Steps p.tables e below S0 (s₁.setTop (mkF m 6 #[.val (.int p0), .val (.int p1), .unset, .unset, .unset, .unset, .unset, .unset, .unset, .unset, .unset, .unset] [(.int (2 : Int32))])) := by rw [← hn]; exact c3
    have c87 : Steps p.tables e below S0 (s₁.setTop (mkF m 13 #[.val (.int p0), .val (.int p1), .val (.int (2 : Int32)), .unset, .unset, .unset, .unset, .unset, .unset, .unset, .unset, .unset] [(.int ((p1 &&& (255 : Int32)).toUInt32.toUInt16.toUInt32.toInt32))])) := c86.trans (by
      refine XS.istoreN X0.here hx rfl (hb hby at_6) rfl (l' := #[.val (.int p0), .val (.int p1), .val (.int (2 : Int32)), .unset, .unset, .unset, .unset, .unset, .unset, .unset, .unset, .unset]) rfl ?_
      refine XS.iloadN X0.here hx rfl (hb hby at_7) rfl ?_
      refine XS.sipush X0.here hx rfl (hb hby at_8) ?_
      refine XS.iand X0.here hx rfl (hb hby at_11) rfl ?_
      refine XS.i2c X0.here hx rfl (hb hby at_12) rfl ?_
      exact Steps.refl _)
    obtain ⟨x88, hB88, eq88⟩ := own_bI p1
    have c88 : Steps p.tables e below S0 (s₁.setTop (mkF m 13 #[.val (.int p0), .val (.int p1), .val (.int (2 : Int32)), .unset, .unset, .unset, .unset, .unset, .unset, .unset, .unset, .unset] [(.int x88)])) := by rw [← eq88]; exact c87
    have c89 : Steps p.tables e below S0 (s₁.setTop (mkF m 23 #[.val (.int p0), .val (.int p1), .val (.int (2 : Int32)), .val (.int x88), .unset, .unset, .unset, .unset, .unset, .unset, .unset, .unset] [(.int ((((p1.toUInt32 >>> ((8 : Int32) &&& 31).toUInt32).toInt32) &&& (255 : Int32)).toUInt32.toUInt16.toUInt32.toInt32))])) := c88.trans (by
      refine XS.istoreN X0.here hx rfl (hb hby at_13) rfl (l' := #[.val (.int p0), .val (.int p1), .val (.int (2 : Int32)), .val (.int x88), .unset, .unset, .unset, .unset, .unset, .unset, .unset, .unset]) rfl ?_
      refine XS.iloadN X0.here hx rfl (hb hby at_14) rfl ?_
      refine XS.bipush X0.here hx rfl (hb hby at_15) ?_
      refine XS.iushr X0.here hx rfl (hb hby at_17) rfl ?_
      refine XS.sipush X0.here hx rfl (hb hby at_18) ?_
      refine XS.iand X0.here hx rfl (hb hby at_21) rfl ?_
      refine XS.i2c X0.here hx rfl (hb hby at_22) rfl ?_
      exact Steps.refl _)
    obtain ⟨x90, hB90, eq90⟩ := own_bI ((p1.toUInt32 >>> ((8 : Int32) &&& 31).toUInt32).toInt32)
    have c90 : Steps p.tables e below S0 (s₁.setTop (mkF m 23 #[.val (.int p0), .val (.int p1), .val (.int (2 : Int32)), .val (.int x88), .unset, .unset, .unset, .unset, .unset, .unset, .unset, .unset] [(.int x90)])) := by rw [← eq90]; exact c89
    have c91 : Steps p.tables e below S0 (s₁.setTop (mkF m 34 #[.val (.int p0), .val (.int p1), .val (.int (2 : Int32)), .val (.int x88), .val (.int x90), .unset, .unset, .unset, .unset, .unset, .unset, .unset] [(.int ((((p1.toUInt32 >>> ((16 : Int32) &&& 31).toUInt32).toInt32) &&& (255 : Int32)).toUInt32.toUInt16.toUInt32.toInt32))])) := c90.trans (by
      refine XS.istore X0.here hx rfl (hb hby at_23) rfl (l' := #[.val (.int p0), .val (.int p1), .val (.int (2 : Int32)), .val (.int x88), .val (.int x90), .unset, .unset, .unset, .unset, .unset, .unset, .unset]) rfl ?_
      refine XS.iloadN X0.here hx rfl (hb hby at_25) rfl ?_
      refine XS.bipush X0.here hx rfl (hb hby at_26) ?_
      refine XS.iushr X0.here hx rfl (hb hby at_28) rfl ?_
      refine XS.sipush X0.here hx rfl (hb hby at_29) ?_
      refine XS.iand X0.here hx rfl (hb hby at_32) rfl ?_
      refine XS.i2c X0.here hx rfl (hb hby at_33) rfl ?_
      exact Steps.refl _)
    obtain ⟨x92, hB92, eq92⟩ := own_bI ((p1.toUInt32 >>> ((16 : Int32) &&& 31).toUInt32).toInt32)
    have c92 : Steps p.tables e below S0 (s₁.setTop (mkF m 34 #[.val (.int p0), .val (.int p1), .val (.int (2 : Int32)), .val (.int x88), .val (.int x90), .unset, .unset, .unset, .unset, .unset, .unset, .unset] [(.int x92)])) := by rw [← eq92]; exact c91
    have c93 : Steps p.tables e below S0 (s₁.setTop (mkF m 45 #[.val (.int p0), .val (.int p1), .val (.int (2 : Int32)), .val (.int x88), .val (.int x90), .val (.int x92), .unset, .unset, .unset, .unset, .unset, .unset] [(.int ((((p1.toUInt32 >>> ((24 : Int32) &&& 31).toUInt32).toInt32) &&& (255 : Int32)).toUInt32.toUInt16.toUInt32.toInt32))])) := c92.trans (by
      refine XS.istore X0.here hx rfl (hb hby at_34) rfl (l' := #[.val (.int p0), .val (.int p1), .val (.int (2 : Int32)), .val (.int x88), .val (.int x90), .val (.int x92), .unset, .unset, .unset, .unset, .unset, .unset]) rfl ?_
      refine XS.iloadN X0.here hx rfl (hb hby at_36) rfl ?_
      refine XS.bipush X0.here hx rfl (hb hby at_37) ?_
      refine XS.iushr X0.here hx rfl (hb hby at_39) rfl ?_
      refine XS.sipush X0.here hx rfl (hb hby at_40) ?_
      refine XS.iand X0.here hx rfl (hb hby at_43) rfl ?_
      refine XS.i2c X0.here hx rfl (hb hby at_44) rfl ?_
      exact Steps.refl _)
    obtain ⟨x94, hB94, eq94⟩ := own_bI ((p1.toUInt32 >>> ((24 : Int32) &&& 31).toUInt32).toInt32)
    have c94 : Steps p.tables e below S0 (s₁.setTop (mkF m 45 #[.val (.int p0), .val (.int p1), .val (.int (2 : Int32)), .val (.int x88), .val (.int x90), .val (.int x92), .unset, .unset, .unset, .unset, .unset, .unset] [(.int x94)])) := by rw [← eq94]; exact c93
    have c95 : Steps p.tables e below S0 (s₁.setTop (mkF m 51 #[.val (.int p0), .val (.int p1), .val (.int (2 : Int32)), .val (.int x88), .val (.int x90), .val (.int x92), .val (.int x94), .unset, .unset, .unset, .unset, .unset] [(.int (9 : Int32))])) := c94.trans (by
      refine XS.istore X0.here hx rfl (hb hby at_45) rfl (l' := #[.val (.int p0), .val (.int p1), .val (.int (2 : Int32)), .val (.int x88), .val (.int x90), .val (.int x92), .val (.int x94), .unset, .unset, .unset, .unset, .unset]) rfl ?_
      refine XS.bipush X0.here hx rfl (hb hby at_47) ?_
      refine XS.iloadN X0.here hx rfl (hb hby at_49) rfl ?_
      refine XS.iadd X0.here hx rfl (hb hby at_50) rfl ?_
      exact Steps.refl _)
    obtain ⟨T96, h96, k96, X96, e96, E96, A96, st96⟩ := newP X0 hx hZ (hw _ (List.mem_of_getElem? (i := 1) rfl)) e0 (g := (mkF m 51 #[.val (.int p0), .val (.int p1), .val (.int (2 : Int32)), .val (.int x88), .val (.int x90), .val (.int x92), .val (.int x94), .unset, .unset, .unset, .unset, .unset] [(.int (9 : Int32))])) rfl (hb hby at_51) rfl (by decide) (cap := 9) (by decide) (by decide) (by decide) (by decide)
    obtain ⟨b96, g96⟩ : ∃ z, z = h0.size := ⟨_, rfl⟩
    rw [← g96] at A96 st96
    have lo96 : h0.size ≤ b96 := Nat.le_of_eq g96.symm
    have ge96 : Z.heap.size ≤ b96 := Nat.le_trans O0.2.1 lo96
    have R96 := CHr.ext (EL := EL) E96 CR0.1
    have sf96 := Safe.ext E96 CR0.1 (Safe.new lo96)
    have CR96 := CR0.trans R96
    have hk96 := Nat.le_trans hk0 R96.2.1
    have V96 := Arv.new A96 (by decide)
    have V96a : Arv Z h96 b96 k96 .char (9 : Int32) [(.int (0 : Int32)), (.int (0 : Int32)), (.int (0 : Int32)), (.int (0 : Int32)), (.int (0 : Int32)), (.int (0 : Int32)), (.int (0 : Int32)), (.int (0 : Int32)), (.int (0 : Int32))] (.int (0 : Int32)) := V96.pad (pad_rep [] (.int (0 : Int32)) 9)
    have c96 : Steps p.tables e below S0 (T96.setTop (mkF m 53 #[.val (.int p0), .val (.int p1), .val (.int (2 : Int32)), .val (.int x88), .val (.int x90), .val (.int x92), .val (.int x94), .unset, .unset, .unset, .unset, .unset] [(.ref b96)])) := c95.trans (st96 _ (Steps.refl _))
    have c97 : Steps p.tables e below S0 (T96.setTop (mkF m 56 #[.val (.int p0), .val (.int p1), .val (.int (2 : Int32)), .val (.int x88), .val (.int x90), .val (.int x92), .val (.int x94), .val (.ref b96), .unset, .unset, .unset, .unset] [(.int (2 : Int32))])) := c96.trans (by
      refine XS.astore X96.here hx rfl (hb hby at_53) rfl rfl (l' := #[.val (.int p0), .val (.int p1), .val (.int (2 : Int32)), .val (.int x88), .val (.int x90), .val (.int x92), .val (.int x94), .val (.ref b96), .unset, .unset, .unset, .unset]) rfl ?_
      refine XS.iloadN X96.here hx rfl (hb hby at_55) rfl ?_
      exact Steps.refl _)
    obtain ⟨T98, h98, k98, X98, e98, E98, A98, st98⟩ := newP X96 hx hZ (hw _ (List.mem_of_getElem? (i := 1) rfl)) e96 (g := (mkF m 56 #[.val (.int p0), .val (.int p1), .val (.int (2 : Int32)), .val (.int x88), .val (.int x90), .val (.int x92), .val (.int x94), .val (.ref b96), .unset, .unset, .unset, .unset] [(.int (2 : Int32))])) rfl (hb hby at_56) rfl (by decide) (cap := 2) (by decide) (by decide) (by decide) (by decide)
    obtain ⟨b98, g98⟩ : ∃ z, z = h96.size := ⟨_, rfl⟩
    rw [← g98] at A98 st98
    have lo98 : h96.size ≤ b98 := Nat.le_of_eq g98.symm
    have ge98 : Z.heap.size ≤ b98 := Nat.le_trans (O0.ext E96).2.1 lo98
    have R98 := CHr.ext (EL := EL) E98 CR96.1
    have sf98 := Safe.ext E98 CR96.1 (Safe.new lo98)
    have CR98 := CR96.trans R98
    have hk98 := Nat.le_trans hk96 R98.2.1
    have V98 := Arv.new A98 (by decide)
    have V98a : Arv Z h98 b98 k98 .char (2 : Int32) [(.int (0 : Int32)), (.int (0 : Int32))] (.int (0 : Int32)) := V98.pad (pad_rep [] (.int (0 : Int32)) 2)
    have c98 : Steps p.tables e below S0 (T98.setTop (mkF m 58 #[.val (.int p0), .val (.int p1), .val (.int (2 : Int32)), .val (.int x88), .val (.int x90), .val (.int x92), .val (.int x94), .val (.ref b96), .unset, .unset, .unset, .unset] [(.ref b98)])) := c97.trans (st98 _ (Steps.refl _))
    have c99 : Steps p.tables e below S0 (T98.setTop (mkF m 65 #[.val (.int p0), .val (.int p1), .val (.int (2 : Int32)), .val (.int x88), .val (.int x90), .val (.int x92), .val (.int x94), .val (.ref b96), .val (.ref b98), .unset, .unset, .unset] [(.int (82 : Int32)), (.int (0 : Int32)), (.ref b96)])) := c98.trans (by
      refine XS.astore X98.here hx rfl (hb hby at_58) rfl rfl (l' := #[.val (.int p0), .val (.int p1), .val (.int (2 : Int32)), .val (.int x88), .val (.int x90), .val (.int x92), .val (.int x94), .val (.ref b96), .val (.ref b98), .unset, .unset, .unset]) rfl ?_
      refine XS.aload X98.here hx rfl (hb hby at_60) rfl rfl ?_
      refine XS.iconst X98.here hx rfl (hb hby at_62) ?_
      refine XS.bipush X98.here hx rfl (hb hby at_63) ?_
      exact Steps.refl _)
    obtain ⟨cl100, Ar100, q100, S100, M100, H100, G100⟩ := id (V96a.ext E98)
    have hin100 : ¬ ((0 : Int32) < 0 ∨ cl100.slots.size ≤ ((0 : Int32)).toNatClampNeg) := inb_of S100 ⟨by decide, by decide⟩
    obtain ⟨T100, h100, X100, e100, W100, st100⟩ := stC X98 hx hZ e98 Ar100 (j := (0 : Int32)) hin100 (g := (mkF m 65 #[.val (.int p0), .val (.int p1), .val (.int (2 : Int32)), .val (.int x88), .val (.int x90), .val (.int x92), .val (.int x94), .val (.ref b96), .val (.ref b98), .unset, .unset, .unset] [(.int (82 : Int32)), (.int (0 : Int32)), (.ref b96)])) rfl rfl (hb hby at_65)
    have V100 := Arv.set Ar100 q100 S100 M100 H100 G100 (fits_nar_char _) W100 0 rfl (Nat.le_of_ble_eq_true rfl)
    have N100 := Fr.snoc X100 N0 ge96
    have R100 := CHr.wr W100 (R98.safe V96.lt sf96) CR98.1
    have CR100 := CR98.trans R100
    have hk100 := Nat.le_trans hk98 R100.2.1
    have V100a : Arv Z h100 b96 k96 .char (9 : Int32) [(.int (82 : Int32)), (.int (0 : Int32)), (.int (0 : Int32)), (.int (0 : Int32)), (.int (0 : Int32)), (.int (0 : Int32)), (.int (0 : Int32)), (.int (0 : Int32)), (.int (0 : Int32))] (.int (0 : Int32)) := V100
    have c100 : Steps p.tables e below S0 (T100.setTop (mkF m 66 #[.val (.int p0), .val (.int p1), .val (.int (2 : Int32)), .val (.int x88), .val (.int x90), .val (.int x92), .val (.int x94), .val (.ref b96), .val (.ref b98), .unset, .unset, .unset] [])) := c99.trans (st100 _ (Steps.refl _))
    have c101 : Steps p.tables e below S0 (T100.setTop (mkF m 71 #[.val (.int p0), .val (.int p1), .val (.int (2 : Int32)), .val (.int x88), .val (.int x90), .val (.int x92), .val (.int x94), .val (.ref b96), .val (.ref b98), .unset, .unset, .unset] [(.int (95 : Int32)), (.int (1 : Int32)), (.ref b96)])) := c100.trans (by
      refine XS.aload X100.here hx rfl (hb hby at_66) rfl rfl ?_
      refine XS.iconst X100.here hx rfl (hb hby at_68) ?_
      refine XS.bipush X100.here hx rfl (hb hby at_69) ?_
      exact Steps.refl _)
    obtain ⟨cl102, Ar102, q102, S102, M102, H102, G102⟩ := id V100a
    have hin102 : ¬ ((1 : Int32) < 0 ∨ cl102.slots.size ≤ ((1 : Int32)).toNatClampNeg) := inb_of S102 ⟨by decide, by decide⟩
    obtain ⟨T102, h102, X102, e102, W102, st102⟩ := stC X100 hx hZ e100 Ar102 (j := (1 : Int32)) hin102 (g := (mkF m 71 #[.val (.int p0), .val (.int p1), .val (.int (2 : Int32)), .val (.int x88), .val (.int x90), .val (.int x92), .val (.int x94), .val (.ref b96), .val (.ref b98), .unset, .unset, .unset] [(.int (95 : Int32)), (.int (1 : Int32)), (.ref b96)])) rfl rfl (hb hby at_71)
    have V102 := Arv.set Ar102 q102 S102 M102 H102 G102 (fits_nar_char _) W102 1 rfl (Nat.le_of_ble_eq_true rfl)
    have N102 := Fr.snoc X102 N100 ge96
    have R102 := CHr.wr W102 ((R98.trans R100).safe V96.lt sf96) CR100.1
    have CR102 := CR100.trans R102
    have hk102 := Nat.le_trans hk100 R102.2.1
    have V102a : Arv Z h102 b96 k96 .char (9 : Int32) [(.int (82 : Int32)), (.int (95 : Int32)), (.int (0 : Int32)), (.int (0 : Int32)), (.int (0 : Int32)), (.int (0 : Int32)), (.int (0 : Int32)), (.int (0 : Int32)), (.int (0 : Int32))] (.int (0 : Int32)) := V102
    have c102 : Steps p.tables e below S0 (T102.setTop (mkF m 72 #[.val (.int p0), .val (.int p1), .val (.int (2 : Int32)), .val (.int x88), .val (.int x90), .val (.int x92), .val (.int x94), .val (.ref b96), .val (.ref b98), .unset, .unset, .unset] [])) := c101.trans (st102 _ (Steps.refl _))
    have c103 : Steps p.tables e below S0 (T102.setTop (mkF m 77 #[.val (.int p0), .val (.int p1), .val (.int (2 : Int32)), .val (.int x88), .val (.int x90), .val (.int x92), .val (.int x94), .val (.ref b96), .val (.ref b98), .unset, .unset, .unset] [(.int (95 : Int32)), (.int (2 : Int32)), (.ref b96)])) := c102.trans (by
      refine XS.aload X102.here hx rfl (hb hby at_72) rfl rfl ?_
      refine XS.iconst X102.here hx rfl (hb hby at_74) ?_
      refine XS.bipush X102.here hx rfl (hb hby at_75) ?_
      exact Steps.refl _)
    obtain ⟨cl104, Ar104, q104, S104, M104, H104, G104⟩ := id V102a
    have hin104 : ¬ ((2 : Int32) < 0 ∨ cl104.slots.size ≤ ((2 : Int32)).toNatClampNeg) := inb_of S104 ⟨by decide, by decide⟩
    obtain ⟨T104, h104, X104, e104, W104, st104⟩ := stC X102 hx hZ e102 Ar104 (j := (2 : Int32)) hin104 (g := (mkF m 77 #[.val (.int p0), .val (.int p1), .val (.int (2 : Int32)), .val (.int x88), .val (.int x90), .val (.int x92), .val (.int x94), .val (.ref b96), .val (.ref b98), .unset, .unset, .unset] [(.int (95 : Int32)), (.int (2 : Int32)), (.ref b96)])) rfl rfl (hb hby at_77)
    have V104 := Arv.set Ar104 q104 S104 M104 H104 G104 (fits_nar_char _) W104 2 rfl (Nat.le_of_ble_eq_true rfl)
    have N104 := Fr.snoc X104 N102 ge96
    have R104 := CHr.wr W104 (((R98.trans R100).trans R102).safe V96.lt sf96) CR102.1
    have CR104 := CR102.trans R104
    have hk104 := Nat.le_trans hk102 R104.2.1
    have V104a : Arv Z h104 b96 k96 .char (9 : Int32) [(.int (82 : Int32)), (.int (95 : Int32)), (.int (95 : Int32)), (.int (0 : Int32)), (.int (0 : Int32)), (.int (0 : Int32)), (.int (0 : Int32)), (.int (0 : Int32)), (.int (0 : Int32))] (.int (0 : Int32)) := V104
    have c104 : Steps p.tables e below S0 (T104.setTop (mkF m 78 #[.val (.int p0), .val (.int p1), .val (.int (2 : Int32)), .val (.int x88), .val (.int x90), .val (.int x92), .val (.int x94), .val (.ref b96), .val (.ref b98), .unset, .unset, .unset] [])) := c103.trans (st104 _ (Steps.refl _))
    have c105 : Steps p.tables e below S0 (T104.setTop (mkF m 86 #[.val (.int p0), .val (.int p1), .val (.int (2 : Int32)), .val (.int x88), .val (.int x90), .val (.int x92), .val (.int x94), .val (.ref b96), .val (.ref b98), .unset, .unset, .unset] [(.int x88), (.int (3 : Int32)), (.ref b96)])) := c104.trans (by
      refine XS.iloadN X104.here hx rfl (hb hby at_78) rfl ?_
      refine XS.ifNo X104.here hx rfl (hb hby at_79) rfl ((if0 _ _).trans (tlt (by decide : (0 : Int32) < (2 : Int32))).2.2.2) ?_
      refine XS.aload X104.here hx rfl (hb hby at_82) rfl rfl ?_
      refine XS.iconst X104.here hx rfl (hb hby at_84) ?_
      refine XS.iloadN X104.here hx rfl (hb hby at_85) rfl ?_
      exact Steps.refl _)
    obtain ⟨cl106, Ar106, q106, S106, M106, H106, G106⟩ := id V104a
    have hin106 : ¬ ((3 : Int32) < 0 ∨ cl106.slots.size ≤ ((3 : Int32)).toNatClampNeg) := inb_of S106 ⟨by decide, by decide⟩
    obtain ⟨T106, h106, X106, e106, W106, st106⟩ := stC X104 hx hZ e104 Ar106 (j := (3 : Int32)) hin106 (g := (mkF m 86 #[.val (.int p0), .val (.int p1), .val (.int (2 : Int32)), .val (.int x88), .val (.int x90), .val (.int x92), .val (.int x94), .val (.ref b96), .val (.ref b98), .unset, .unset, .unset] [(.int x88), (.int (3 : Int32)), (.ref b96)])) rfl rfl (hb hby at_86)
    have V106 := Arv.set Ar106 q106 S106 M106 H106 G106 (fits_nar_char _) W106 3 rfl (Nat.le_of_ble_eq_true rfl)
    have N106 := Fr.snoc X106 N104 ge96
    have R106 := CHr.wr W106 ((((R98.trans R100).trans R102).trans R104).safe V96.lt sf96) CR104.1
    have CR106 := CR104.trans R106
    have hk106 := Nat.le_trans hk104 R106.2.1
    rw [hB88.nar] at V106
    have V106a : Arv Z h106 b96 k96 .char (9 : Int32) [(.int (82 : Int32)), (.int (95 : Int32)), (.int (95 : Int32)), (.int x88), (.int (0 : Int32)), (.int (0 : Int32)), (.int (0 : Int32)), (.int (0 : Int32)), (.int (0 : Int32))] (.int (0 : Int32)) := V106
    have c106 : Steps p.tables e below S0 (T106.setTop (mkF m 87 #[.val (.int p0), .val (.int p1), .val (.int (2 : Int32)), .val (.int x88), .val (.int x90), .val (.int x92), .val (.int x94), .val (.ref b96), .val (.ref b98), .unset, .unset, .unset] [])) := c105.trans (st106 _ (Steps.refl _))
    have c107 : Steps p.tables e below S0 (T106.setTop (mkF m 91 #[.val (.int p0), .val (.int p1), .val (.int (2 : Int32)), .val (.int x88), .val (.int x90), .val (.int x92), .val (.int x94), .val (.ref b96), .val (.ref b98), .unset, .unset, .unset] [(.int x88), (.int (0 : Int32)), (.ref b98)])) := c106.trans (by
      refine XS.aload X106.here hx rfl (hb hby at_87) rfl rfl ?_
      refine XS.iconst X106.here hx rfl (hb hby at_89) ?_
      refine XS.iloadN X106.here hx rfl (hb hby at_90) rfl ?_
      exact Steps.refl _)
    obtain ⟨cl108, Ar108, q108, S108, M108, H108, G108⟩ := id ((((V98a.other W100 (Ne.symm (Nat.ne_of_lt (Nat.lt_of_lt_of_le V96.lt lo98)))).other W102 (Ne.symm (Nat.ne_of_lt (Nat.lt_of_lt_of_le V96.lt lo98)))).other W104 (Ne.symm (Nat.ne_of_lt (Nat.lt_of_lt_of_le V96.lt lo98)))).other W106 (Ne.symm (Nat.ne_of_lt (Nat.lt_of_lt_of_le V96.lt lo98))))
    have hin108 : ¬ ((0 : Int32) < 0 ∨ cl108.slots.size ≤ ((0 : Int32)).toNatClampNeg) := inb_of S108 ⟨by decide, by decide⟩
    obtain ⟨T108, h108, X108, e108, W108, st108⟩ := stC X106 hx hZ e106 Ar108 (j := (0 : Int32)) hin108 (g := (mkF m 91 #[.val (.int p0), .val (.int p1), .val (.int (2 : Int32)), .val (.int x88), .val (.int x90), .val (.int x92), .val (.int x94), .val (.ref b96), .val (.ref b98), .unset, .unset, .unset] [(.int x88), (.int (0 : Int32)), (.ref b98)])) rfl rfl (hb hby at_91)
    have V108 := Arv.set Ar108 q108 S108 M108 H108 G108 (fits_nar_char _) W108 0 rfl (Nat.le_of_ble_eq_true rfl)
    have N108 := Fr.snoc X108 N106 ge98
    have R108 := CHr.wr W108 ((((R100.trans R102).trans R104).trans R106).safe V98.lt sf98) CR106.1
    have CR108 := CR106.trans R108
    have hk108 := Nat.le_trans hk106 R108.2.1
    rw [hB88.nar] at V108
    have V108a : Arv Z h108 b98 k98 .char (2 : Int32) [(.int x88), (.int (0 : Int32))] (.int (0 : Int32)) := V108
    have c108 : Steps p.tables e below S0 (T108.setTop (mkF m 92 #[.val (.int p0), .val (.int p1), .val (.int (2 : Int32)), .val (.int x88), .val (.int x90), .val (.int x92), .val (.int x94), .val (.ref b96), .val (.ref b98), .unset, .unset, .unset] [])) := c107.trans (st108 _ (Steps.refl _))
    have c109 : Steps p.tables e below S0 (T108.setTop (mkF m 102 #[.val (.int p0), .val (.int p1), .val (.int (2 : Int32)), .val (.int x88), .val (.int x90), .val (.int x92), .val (.int x94), .val (.ref b96), .val (.ref b98), .unset, .unset, .unset] [(.int x90), (.int (4 : Int32)), (.ref b96)])) := c108.trans (by
      refine XS.iloadN X108.here hx rfl (hb hby at_92) rfl ?_
      refine XS.iconst X108.here hx rfl (hb hby at_93) ?_
      refine XS.icmpNo X108.here hx rfl (hb hby at_94) rfl (tlt (by decide : (1 : Int32) < (2 : Int32))).2.2.2 ?_
      refine XS.aload X108.here hx rfl (hb hby at_97) rfl rfl ?_
      refine XS.iconst X108.here hx rfl (hb hby at_99) ?_
      refine XS.iload X108.here hx rfl (hb hby at_100) rfl ?_
      exact Steps.refl _)
    obtain ⟨cl110, Ar110, q110, S110, M110, H110, G110⟩ := id (V106a.other W108 (Nat.ne_of_lt (Nat.lt_of_lt_of_le V96.lt lo98)))
    have hin110 : ¬ ((4 : Int32) < 0 ∨ cl110.slots.size ≤ ((4 : Int32)).toNatClampNeg) := inb_of S110 ⟨by decide, by decide⟩
    obtain ⟨T110, h110, X110, e110, W110, st110⟩ := stC X108 hx hZ e108 Ar110 (j := (4 : Int32)) hin110 (g := (mkF m 102 #[.val (.int p0), .val (.int p1), .val (.int (2 : Int32)), .val (.int x88), .val (.int x90), .val (.int x92), .val (.int x94), .val (.ref b96), .val (.ref b98), .unset, .unset, .unset] [(.int x90), (.int (4 : Int32)), (.ref b96)])) rfl rfl (hb hby at_102)
    have V110 := Arv.set Ar110 q110 S110 M110 H110 G110 (fits_nar_char _) W110 4 rfl (Nat.le_of_ble_eq_true rfl)
    have N110 := Fr.snoc X110 N108 ge96
    have R110 := CHr.wr W110 ((((((R98.trans R100).trans R102).trans R104).trans R106).trans R108).safe V96.lt sf96) CR108.1
    have CR110 := CR108.trans R110
    have hk110 := Nat.le_trans hk108 R110.2.1
    rw [hB90.nar] at V110
    have V110a : Arv Z h110 b96 k96 .char (9 : Int32) [(.int (82 : Int32)), (.int (95 : Int32)), (.int (95 : Int32)), (.int x88), (.int x90), (.int (0 : Int32)), (.int (0 : Int32)), (.int (0 : Int32)), (.int (0 : Int32))] (.int (0 : Int32)) := V110
    have c110 : Steps p.tables e below S0 (T110.setTop (mkF m 103 #[.val (.int p0), .val (.int p1), .val (.int (2 : Int32)), .val (.int x88), .val (.int x90), .val (.int x92), .val (.int x94), .val (.ref b96), .val (.ref b98), .unset, .unset, .unset] [])) := c109.trans (st110 _ (Steps.refl _))
    have c111 : Steps p.tables e below S0 (T110.setTop (mkF m 108 #[.val (.int p0), .val (.int p1), .val (.int (2 : Int32)), .val (.int x88), .val (.int x90), .val (.int x92), .val (.int x94), .val (.ref b96), .val (.ref b98), .unset, .unset, .unset] [(.int x90), (.int (1 : Int32)), (.ref b98)])) := c110.trans (by
      refine XS.aload X110.here hx rfl (hb hby at_103) rfl rfl ?_
      refine XS.iconst X110.here hx rfl (hb hby at_105) ?_
      refine XS.iload X110.here hx rfl (hb hby at_106) rfl ?_
      exact Steps.refl _)
    obtain ⟨cl112, Ar112, q112, S112, M112, H112, G112⟩ := id (V108a.other W110 (Ne.symm (Nat.ne_of_lt (Nat.lt_of_lt_of_le V96.lt lo98))))
    have hin112 : ¬ ((1 : Int32) < 0 ∨ cl112.slots.size ≤ ((1 : Int32)).toNatClampNeg) := inb_of S112 ⟨by decide, by decide⟩
    obtain ⟨T112, h112, X112, e112, W112, st112⟩ := stC X110 hx hZ e110 Ar112 (j := (1 : Int32)) hin112 (g := (mkF m 108 #[.val (.int p0), .val (.int p1), .val (.int (2 : Int32)), .val (.int x88), .val (.int x90), .val (.int x92), .val (.int x94), .val (.ref b96), .val (.ref b98), .unset, .unset, .unset] [(.int x90), (.int (1 : Int32)), (.ref b98)])) rfl rfl (hb hby at_108)
    have V112 := Arv.set Ar112 q112 S112 M112 H112 G112 (fits_nar_char _) W112 1 rfl (Nat.le_of_ble_eq_true rfl)
    have N112 := Fr.snoc X112 N110 ge98
    have R112 := CHr.wr W112 ((((((R100.trans R102).trans R104).trans R106).trans R108).trans R110).safe V98.lt sf98) CR110.1
    have CR112 := CR110.trans R112
    have hk112 := Nat.le_trans hk110 R112.2.1
    rw [hB90.nar] at V112
    have V112a : Arv Z h112 b98 k98 .char (2 : Int32) [(.int x88), (.int x90)] (.int (0 : Int32)) := V112
    have c112 : Steps p.tables e below S0 (T112.setTop (mkF m 109 #[.val (.int p0), .val (.int p1), .val (.int (2 : Int32)), .val (.int x88), .val (.int x90), .val (.int x92), .val (.int x94), .val (.ref b96), .val (.ref b98), .unset, .unset, .unset] [])) := c111.trans (st112 _ (Steps.refl _))
    have c113 : Steps p.tables e below S0 (T112.setTop (mkF m 151 #[.val (.int p0), .val (.int p1), .val (.int (2 : Int32)), .val (.int x88), .val (.int x90), .val (.int x92), .val (.int x94), .val (.ref b96), .val (.ref b98), .unset, .unset, .unset] [(.int (46 : Int32)), (.int (5 : Int32)), (.ref b96)])) := c112.trans (by
      refine XS.iloadN X112.here hx rfl (hb hby at_109) rfl ?_
      refine XS.iconst X112.here hx rfl (hb hby at_110) ?_
      refine XS.icmpYes X112.here hx rfl (pc0 := 111) (pc' := 126) rfl (hb hby at_111) rfl (flt (by decide : ¬ ((2 : Int32) < (2 : Int32)))).2.2.2 (by decide) (by decide) ?_
      refine XS.iloadN X112.here hx rfl (hb hby at_126) rfl ?_
      refine XS.iconst X112.here hx rfl (hb hby at_127) ?_
      refine XS.icmpYes X112.here hx rfl (pc0 := 128) (pc' := 144) rfl (hb hby at_128) rfl (flt (by decide : ¬ ((3 : Int32) < (2 : Int32)))).2.2.2 (by decide) (by decide) ?_
      refine XS.aload X112.here hx rfl (hb hby at_144) rfl rfl ?_
      refine XS.iconst X112.here hx rfl (hb hby at_146) ?_
      refine XS.iloadN X112.here hx rfl (hb hby at_147) rfl ?_
      refine XS.iadd X112.here hx rfl (hb hby at_148) rfl ?_
      refine XS.bipush X112.here hx rfl (hb hby at_149) ?_
      exact Steps.refl _)
    obtain ⟨cl114, Ar114, q114, S114, M114, H114, G114⟩ := id (V110a.other W112 (Nat.ne_of_lt (Nat.lt_of_lt_of_le V96.lt lo98)))
    have hin114 : ¬ ((5 : Int32) < 0 ∨ cl114.slots.size ≤ ((5 : Int32)).toNatClampNeg) := inb_of S114 ⟨by decide, by decide⟩
    obtain ⟨T114, h114, X114, e114, W114, st114⟩ := stC X112 hx hZ e112 Ar114 (j := (5 : Int32)) hin114 (g := (mkF m 151 #[.val (.int p0), .val (.int p1), .val (.int (2 : Int32)), .val (.int x88), .val (.int x90), .val (.int x92), .val (.int x94), .val (.ref b96), .val (.ref b98), .unset, .unset, .unset] [(.int (46 : Int32)), (.int (5 : Int32)), (.ref b96)])) rfl rfl (hb hby at_151)
    have V114 := Arv.set Ar114 q114 S114 M114 H114 G114 (fits_nar_char _) W114 5 rfl (Nat.le_of_ble_eq_true rfl)
    have N114 := Fr.snoc X114 N112 ge96
    have R114 := CHr.wr W114 ((((((((R98.trans R100).trans R102).trans R104).trans R106).trans R108).trans R110).trans R112).safe V96.lt sf96) CR112.1
    have CR114 := CR112.trans R114
    have hk114 := Nat.le_trans hk112 R114.2.1
    have V114a : Arv Z h114 b96 k96 .char (9 : Int32) [(.int (82 : Int32)), (.int (95 : Int32)), (.int (95 : Int32)), (.int x88), (.int x90), (.int (46 : Int32)), (.int (0 : Int32)), (.int (0 : Int32)), (.int (0 : Int32))] (.int (0 : Int32)) := V114
    have c114 : Steps p.tables e below S0 (T114.setTop (mkF m 152 #[.val (.int p0), .val (.int p1), .val (.int (2 : Int32)), .val (.int x88), .val (.int x90), .val (.int x92), .val (.int x94), .val (.ref b96), .val (.ref b98), .unset, .unset, .unset] [])) := c113.trans (st114 _ (Steps.refl _))
    have c115 : Steps p.tables e below S0 (T114.setTop (mkF m 159 #[.val (.int p0), .val (.int p1), .val (.int (2 : Int32)), .val (.int x88), .val (.int x90), .val (.int x92), .val (.int x94), .val (.ref b96), .val (.ref b98), .unset, .unset, .unset] [(.int (115 : Int32)), (.int (6 : Int32)), (.ref b96)])) := c114.trans (by
      refine XS.aload X114.here hx rfl (hb hby at_152) rfl rfl ?_
      refine XS.iconst X114.here hx rfl (hb hby at_154) ?_
      refine XS.iloadN X114.here hx rfl (hb hby at_155) rfl ?_
      refine XS.iadd X114.here hx rfl (hb hby at_156) rfl ?_
      refine XS.bipush X114.here hx rfl (hb hby at_157) ?_
      exact Steps.refl _)
    obtain ⟨cl116, Ar116, q116, S116, M116, H116, G116⟩ := id V114a
    have hin116 : ¬ ((6 : Int32) < 0 ∨ cl116.slots.size ≤ ((6 : Int32)).toNatClampNeg) := inb_of S116 ⟨by decide, by decide⟩
    obtain ⟨T116, h116, X116, e116, W116, st116⟩ := stC X114 hx hZ e114 Ar116 (j := (6 : Int32)) hin116 (g := (mkF m 159 #[.val (.int p0), .val (.int p1), .val (.int (2 : Int32)), .val (.int x88), .val (.int x90), .val (.int x92), .val (.int x94), .val (.ref b96), .val (.ref b98), .unset, .unset, .unset] [(.int (115 : Int32)), (.int (6 : Int32)), (.ref b96)])) rfl rfl (hb hby at_159)
    have V116 := Arv.set Ar116 q116 S116 M116 H116 G116 (fits_nar_char _) W116 6 rfl (Nat.le_of_ble_eq_true rfl)
    have N116 := Fr.snoc X116 N114 ge96
    have R116 := CHr.wr W116 (((((((((R98.trans R100).trans R102).trans R104).trans R106).trans R108).trans R110).trans R112).trans R114).safe V96.lt sf96) CR114.1
    have CR116 := CR114.trans R116
    have hk116 := Nat.le_trans hk114 R116.2.1
    have V116a : Arv Z h116 b96 k96 .char (9 : Int32) [(.int (82 : Int32)), (.int (95 : Int32)), (.int (95 : Int32)), (.int x88), (.int x90), (.int (46 : Int32)), (.int (115 : Int32)), (.int (0 : Int32)), (.int (0 : Int32))] (.int (0 : Int32)) := V116
    have c116 : Steps p.tables e below S0 (T116.setTop (mkF m 160 #[.val (.int p0), .val (.int p1), .val (.int (2 : Int32)), .val (.int x88), .val (.int x90), .val (.int x92), .val (.int x94), .val (.ref b96), .val (.ref b98), .unset, .unset, .unset] [])) := c115.trans (st116 _ (Steps.refl _))
    have c117 : Steps p.tables e below S0 (T116.setTop (mkF m 167 #[.val (.int p0), .val (.int p1), .val (.int (2 : Int32)), .val (.int x88), .val (.int x90), .val (.int x92), .val (.int x94), .val (.ref b96), .val (.ref b98), .unset, .unset, .unset] [(.int (113 : Int32)), (.int (7 : Int32)), (.ref b96)])) := c116.trans (by
      refine XS.aload X116.here hx rfl (hb hby at_160) rfl rfl ?_
      refine XS.iconst X116.here hx rfl (hb hby at_162) ?_
      refine XS.iloadN X116.here hx rfl (hb hby at_163) rfl ?_
      refine XS.iadd X116.here hx rfl (hb hby at_164) rfl ?_
      refine XS.bipush X116.here hx rfl (hb hby at_165) ?_
      exact Steps.refl _)
    obtain ⟨cl118, Ar118, q118, S118, M118, H118, G118⟩ := id V116a
    have hin118 : ¬ ((7 : Int32) < 0 ∨ cl118.slots.size ≤ ((7 : Int32)).toNatClampNeg) := inb_of S118 ⟨by decide, by decide⟩
    obtain ⟨T118, h118, X118, e118, W118, st118⟩ := stC X116 hx hZ e116 Ar118 (j := (7 : Int32)) hin118 (g := (mkF m 167 #[.val (.int p0), .val (.int p1), .val (.int (2 : Int32)), .val (.int x88), .val (.int x90), .val (.int x92), .val (.int x94), .val (.ref b96), .val (.ref b98), .unset, .unset, .unset] [(.int (113 : Int32)), (.int (7 : Int32)), (.ref b96)])) rfl rfl (hb hby at_167)
    have V118 := Arv.set Ar118 q118 S118 M118 H118 G118 (fits_nar_char _) W118 7 rfl (Nat.le_of_ble_eq_true rfl)
    have N118 := Fr.snoc X118 N116 ge96
    have R118 := CHr.wr W118 ((((((((((R98.trans R100).trans R102).trans R104).trans R106).trans R108).trans R110).trans R112).trans R114).trans R116).safe V96.lt sf96) CR116.1
    have CR118 := CR116.trans R118
    have hk118 := Nat.le_trans hk116 R118.2.1
    have V118a : Arv Z h118 b96 k96 .char (9 : Int32) [(.int (82 : Int32)), (.int (95 : Int32)), (.int (95 : Int32)), (.int x88), (.int x90), (.int (46 : Int32)), (.int (115 : Int32)), (.int (113 : Int32)), (.int (0 : Int32))] (.int (0 : Int32)) := V118
    have c118 : Steps p.tables e below S0 (T118.setTop (mkF m 168 #[.val (.int p0), .val (.int p1), .val (.int (2 : Int32)), .val (.int x88), .val (.int x90), .val (.int x92), .val (.int x94), .val (.ref b96), .val (.ref b98), .unset, .unset, .unset] [])) := c117.trans (st118 _ (Steps.refl _))
    have c119 : Steps p.tables e below S0 (T118.setTop (mkF m 176 #[.val (.int p0), .val (.int p1), .val (.int (2 : Int32)), .val (.int x88), .val (.int x90), .val (.int x92), .val (.int x94), .val (.ref b96), .val (.ref b98), .unset, .unset, .unset] [(.int (108 : Int32)), (.int (8 : Int32)), (.ref b96)])) := c118.trans (by
      refine XS.aload X118.here hx rfl (hb hby at_168) rfl rfl ?_
      refine XS.bipush X118.here hx rfl (hb hby at_170) ?_
      refine XS.iloadN X118.here hx rfl (hb hby at_172) rfl ?_
      refine XS.iadd X118.here hx rfl (hb hby at_173) rfl ?_
      refine XS.bipush X118.here hx rfl (hb hby at_174) ?_
      exact Steps.refl _)
    obtain ⟨cl120, Ar120, q120, S120, M120, H120, G120⟩ := id V118a
    have hin120 : ¬ ((8 : Int32) < 0 ∨ cl120.slots.size ≤ ((8 : Int32)).toNatClampNeg) := inb_of S120 ⟨by decide, by decide⟩
    obtain ⟨T120, h120, X120, e120, W120, st120⟩ := stC X118 hx hZ e118 Ar120 (j := (8 : Int32)) hin120 (g := (mkF m 176 #[.val (.int p0), .val (.int p1), .val (.int (2 : Int32)), .val (.int x88), .val (.int x90), .val (.int x92), .val (.int x94), .val (.ref b96), .val (.ref b98), .unset, .unset, .unset] [(.int (108 : Int32)), (.int (8 : Int32)), (.ref b96)])) rfl rfl (hb hby at_176)
    have V120 := Arv.set Ar120 q120 S120 M120 H120 G120 (fits_nar_char _) W120 8 rfl (Nat.le_of_ble_eq_true rfl)
    have N120 := Fr.snoc X120 N118 ge96
    have R120 := CHr.wr W120 (((((((((((R98.trans R100).trans R102).trans R104).trans R106).trans R108).trans R110).trans R112).trans R114).trans R116).trans R118).safe V96.lt sf96) CR118.1
    have CR120 := CR118.trans R120
    have hk120 := Nat.le_trans hk118 R120.2.1
    have V120a : Arv Z h120 b96 k96 .char (9 : Int32) [(.int (82 : Int32)), (.int (95 : Int32)), (.int (95 : Int32)), (.int x88), (.int x90), (.int (46 : Int32)), (.int (115 : Int32)), (.int (113 : Int32)), (.int (108 : Int32))] (.int (0 : Int32)) := V120
    have c120 : Steps p.tables e below S0 (T120.setTop (mkF m 177 #[.val (.int p0), .val (.int p1), .val (.int (2 : Int32)), .val (.int x88), .val (.int x90), .val (.int x92), .val (.int x94), .val (.ref b96), .val (.ref b98), .unset, .unset, .unset] [])) := c119.trans (st120 _ (Steps.refl _))
    obtain ⟨T121, h121, X121, e121, E121, A121, D121, -, st121⟩ := newO X120 hx hZ hown (hw _ (List.mem_of_getElem? (i := 2) rfl)) (hw _ (List.mem_of_getElem? (i := 3) rfl)) (hw _ (List.mem_of_getElem? (i := 4) rfl)) e120 (g := (mkF m 177 #[.val (.int p0), .val (.int p1), .val (.int (2 : Int32)), .val (.int x88), .val (.int x90), .val (.int x92), .val (.int x94), .val (.ref b96), .val (.ref b98), .unset, .unset, .unset] [])) rfl (hb hby at_177) (by decide) (by decide)
    obtain ⟨b121, g121⟩ : ∃ z, z = h120.size := ⟨_, rfl⟩
    rw [← g121] at A121 D121 st121
    have lo121 : h120.size ≤ b121 := Nat.le_of_eq g121.symm
    have ge121 : Z.heap.size ≤ b121 := Nat.le_trans (((((((((((((O0.ext E96).ext E98).wr W100 ge96).wr W102 ge96).wr W104 ge96).wr W106 ge96).wr W108 ge98).wr W110 ge96).wr W112 ge98).wr W114 ge96).wr W116 ge96).wr W118 ge96).wr W120 ge96).2.1 lo121
    have R121 := CHr.ext (EL := EL) E121 CR120.1
    have sf121 := Safe.ext E121 CR120.1 (Safe.new lo121)
    have CR121 := CR120.trans R121
    have hk121 := Nat.le_trans hk120 R121.2.1
    have F121_coder : Fld Z h121 b121 "java/lang/String" "coder" "B" (.int (0 : Int32)) := D121 (Or.inr (hw _ (List.mem_of_getElem? (i := 28) rfl))) (ty := .byte) (by decide)
    have F121_value : Fld Z h121 b121 "java/lang/String" "value" "[B" .null := D121 (Or.inr (hw _ (List.mem_of_getElem? (i := 30) rfl))) (ty := (.array .byte)) (by decide)
    have c121 : Steps p.tables e below S0 (T121.setTop (mkF m 180 #[.val (.int p0), .val (.int p1), .val (.int (2 : Int32)), .val (.int x88), .val (.int x90), .val (.int x92), .val (.int x94), .val (.ref b96), .val (.ref b98), .unset, .unset, .unset] [(.ref b121)])) := c120.trans (st121 _ (Steps.refl _))
    have c122 : Steps p.tables e below S0 (T121.setTop (mkF m 183 #[.val (.int p0), .val (.int p1), .val (.int (2 : Int32)), .val (.int x88), .val (.int x90), .val (.int x92), .val (.int x94), .val (.ref b96), .val (.ref b98), .unset, .unset, .unset] [(.ref b96), (.ref b121), (.ref b121)])) := c121.trans (by
      refine XS.dup X121.here hx rfl (hb hby at_180) rfl rfl ?_
      refine XS.aload X121.here hx rfl (hb hby at_181) rfl rfl ?_
      exact Steps.refl _)
    obtain ⟨v123, T123, L123, X123, ⟨rfl, N123', K123, E123, Cd123, t123, kb123, gt123, lo123, ne123, V123, Kb123⟩, c123'⟩ := own_spec X121 hx hml hZ hown rfl (hw _ (List.mem_of_getElem? (i := 5) rfl)) (hw _ (List.mem_of_getElem? (i := 6) rfl)) (hw _ (List.mem_of_getElem? (i := 7) rfl)) (by decide) (Q := StrChars.Road.QV Z b121 (9 : Int32) (([(82 : Int32), (95 : Int32), (95 : Int32), x88, x90, (46 : Int32), (115 : Int32), (113 : Int32), (108 : Int32)] : List Int32).map (fun c : Int32 => c.toInt8.toInt32)) h121 Z.heap.size) (kc := 1) (ks := 9) (h := h121) (W := 1) (b := b121) (argsL := [(.ref b96)]) (rest := [(.ref b121)]) (StrChars.Road.backV (s := (s.setVm s.vm)) (R := room_1) (W := 1) hZ (own_wi hw) (kI := 4) (hw _ (List.mem_of_getElem? (i := 3) rfl)) (cs := [(82 : Int32), (95 : Int32), (95 : Int32), x88, x90, (46 : Int32), (115 : Int32), (113 : Int32), (108 : Int32)]) (bs := ([(82 : Int32), (95 : Int32), (95 : Int32), x88, x90, (46 : Int32), (115 : Int32), (113 : Int32), (108 : Int32)] : List Int32).map (fun c : Int32 => c.toInt8.toInt32)) (n := 9) ge121 ((((((((((((((O0.ext E96).ext E98).wr W100 ge96).wr W102 ge96).wr W104 ge96).wr W106 ge96).wr W108 ge98).wr W110 ge96).wr W112 ge98).wr W114 ge96).wr W116 ge96).wr W118 ge96).wr W120 ge96).ext E121).2.1 A121 F121_value F121_coder (V120a.ext E121) (SC.ext ((((((((((((((O0.ext E96).ext E98).wr W100 ge96).wr W102 ge96).wr W104 ge96).wr W106 ge96).wr W108 ge98).wr W110 ge96).wr W112 ge98).wr W114 ge96).wr W116 ge96).wr W118 ge96).wr W120 ge96).ext E121).2) hz rfl rfl (by decide) (by decide) (fun c hc => ((own_cons (own_Bl 82 (by decide)) (own_cons (own_Bl 95 (by decide)) (own_cons (own_Bl 95 (by decide)) (own_cons hB88 (own_cons hB90 (own_cons (own_Bl 46 (by decide)) (own_cons (own_Bl 115 (by decide)) (own_cons (own_Bl 113 (by decide)) (own_cons (own_Bl 108 (by decide)) own_nil))))))))) c hc).rng) rfl (by decide) (by decide)) c122 rfl rfl (lenOf pd_10 rfl) rfl (by show 2 * 0 + _ ≤ _; exact Nat.le_of_eq rfl) (hb hby at_183) e121 (by decide) (by decide)
    have N123 := Fr.app N120 N123'
    have R123 := CHr.keep K123 (sfS sf121 sf0) CR121.1
    have CR123 := CR121.trans R123
    have hk123 := Nat.le_trans hk121 R123.2.1
    have c123 : Steps p.tables e below S0 (T123.setTop (mkF m 186 #[.val (.int p0), .val (.int p1), .val (.int (2 : Int32)), .val (.int x88), .val (.int x90), .val (.int x92), .val (.int x94), .val (.ref b96), .val (.ref b98), .unset, .unset, .unset] [(.ref b121)])) := c123'
    have c124 : Steps p.tables e below S0 (T123.setTop (mkF m 188 #[.val (.int p0), .val (.int p1), .val (.int (2 : Int32)), .val (.int x88), .val (.int x90), .val (.int x92), .val (.int x94), .val (.ref b96), .val (.ref b98), .val (.ref b121), .unset, .unset] [])) := c123.trans (by
      refine XS.astore X123.here hx rfl (hb hby at_186) rfl rfl (l' := #[.val (.int p0), .val (.int p1), .val (.int (2 : Int32)), .val (.int x88), .val (.int x90), .val (.int x92), .val (.int x94), .val (.ref b96), .val (.ref b98), .val (.ref b121), .unset, .unset]) rfl ?_
      exact Steps.refl _)
    obtain ⟨T125, h125, X125, e125, E125, A125, D125, -, st125⟩ := newO X123 hx hZ hown (hw _ (List.mem_of_getElem? (i := 2) rfl)) (hw _ (List.mem_of_getElem? (i := 3) rfl)) (hw _ (List.mem_of_getElem? (i := 4) rfl)) rfl (g := (mkF m 188 #[.val (.int p0), .val (.int p1), .val (.int (2 : Int32)), .val (.int x88), .val (.int x90), .val (.int x92), .val (.int x94), .val (.ref b96), .val (.ref b98), .val (.ref b121), .unset, .unset] [])) rfl (hb hby at_188) (by decide) (by decide)
    obtain ⟨b125, g125⟩ : ∃ z, z = T123.heap.size := ⟨_, rfl⟩
    rw [← g125] at A125 D125 st125
    have lo125 : T123.heap.size ≤ b125 := Nat.le_of_eq g125.symm
    have ge125 : Z.heap.size ≤ b125 := Nat.le_trans (((((((((((((((O0.ext E96).ext E98).wr W100 ge96).wr W102 ge96).wr W104 ge96).wr W106 ge96).wr W108 ge98).wr W110 ge96).wr W112 ge98).wr W114 ge96).wr W116 ge96).wr W118 ge96).wr W120 ge96).ext E121).keep K123 (allS ge121 all0)).2.1 lo125
    have R125 := CHr.ext (EL := EL) E125 CR123.1
    have sf125 := Safe.ext E125 CR123.1 (Safe.new lo125)
    have CR125 := CR123.trans R125
    have hk125 := Nat.le_trans hk123 R125.2.1
    have F125_coder : Fld Z h125 b125 "java/lang/String" "coder" "B" (.int (0 : Int32)) := D125 (Or.inr (hw _ (List.mem_of_getElem? (i := 28) rfl))) (ty := .byte) (by decide)
    have F125_value : Fld Z h125 b125 "java/lang/String" "value" "[B" .null := D125 (Or.inr (hw _ (List.mem_of_getElem? (i := 30) rfl))) (ty := (.array .byte)) (by decide)
    have c125 : Steps p.tables e below S0 (T125.setTop (mkF m 191 #[.val (.int p0), .val (.int p1), .val (.int (2 : Int32)), .val (.int x88), .val (.int x90), .val (.int x92), .val (.int x94), .val (.ref b96), .val (.ref b98), .val (.ref b121), .unset, .unset] [(.ref b125)])) := c124.trans (st125 _ (Steps.refl _))
    have c126 : Steps p.tables e below S0 (T125.setTop (mkF m 194 #[.val (.int p0), .val (.int p1), .val (.int (2 : Int32)), .val (.int x88), .val (.int x90), .val (.int x92), .val (.int x94), .val (.ref b96), .val (.ref b98), .val (.ref b121), .unset, .unset] [(.ref b98), (.ref b125), (.ref b125)])) := c125.trans (by
      refine XS.dup X125.here hx rfl (hb hby at_191) rfl rfl ?_
      refine XS.aload X125.here hx rfl (hb hby at_192) rfl rfl ?_
      exact Steps.refl _)
    obtain ⟨v127, T127, L127, X127, ⟨rfl, N127', K127, E127, Cd127, t127, kb127, gt127, lo127, ne127, V127, Kb127⟩, c127'⟩ := own_spec X125 hx hml hZ hown rfl (hw _ (List.mem_of_getElem? (i := 5) rfl)) (hw _ (List.mem_of_getElem? (i := 6) rfl)) (hw _ (List.mem_of_getElem? (i := 7) rfl)) (by decide) (Q := StrChars.Road.QV Z b125 (2 : Int32) (([x88, x90] : List Int32).map (fun c : Int32 => c.toInt8.toInt32)) h125 Z.heap.size) (kc := 1) (ks := 2) (h := h125) (W := 1) (b := b125) (argsL := [(.ref b98)]) (rest := [(.ref b125)]) (StrChars.Road.backV (s := (s.setVm s.vm)) (R := room_1) (W := 1) hZ (own_wi hw) (kI := 4) (hw _ (List.mem_of_getElem? (i := 3) rfl)) (cs := [x88, x90]) (bs := ([x88, x90] : List Int32).map (fun c : Int32 => c.toInt8.toInt32)) (n := 2) ge125 ((((((((((((((((O0.ext E96).ext E98).wr W100 ge96).wr W102 ge96).wr W104 ge96).wr W106 ge96).wr W108 ge98).wr W110 ge96).wr W112 ge98).wr W114 ge96).wr W116 ge96).wr W118 ge96).wr W120 ge96).ext E121).keep K123 (allS ge121 all0)).ext E125).2.1 A125 F125_value F125_coder (((((((V112a.other W114 (Ne.symm (Nat.ne_of_lt (Nat.lt_of_lt_of_le V96.lt lo98)))).other W116 (Ne.symm (Nat.ne_of_lt (Nat.lt_of_lt_of_le V96.lt lo98)))).other W118 (Ne.symm (Nat.ne_of_lt (Nat.lt_of_lt_of_le V96.lt lo98)))).other W120 (Ne.symm (Nat.ne_of_lt (Nat.lt_of_lt_of_le V96.lt lo98)))).ext E121).keep K123 (ninS (Nat.ne_of_lt (Nat.lt_of_lt_of_le (Nat.lt_of_lt_of_le V98.lt (Nat.le_trans (Nat.le_trans (Nat.le_trans (Nat.le_trans (Nat.le_trans (Nat.le_trans (Nat.le_trans (Nat.le_trans (Nat.le_trans (Nat.le_trans (Keep.of_wr W100).1 (Keep.of_wr W102).1) (Keep.of_wr W104).1) (Keep.of_wr W106).1) (Keep.of_wr W108).1) (Keep.of_wr W110).1) (Keep.of_wr W112).1) (Keep.of_wr W114).1) (Keep.of_wr W116).1) (Keep.of_wr W118).1) (Keep.of_wr W120).1)) lo121)) nin0)).ext E125) (SC.ext ((((((((((((((((O0.ext E96).ext E98).wr W100 ge96).wr W102 ge96).wr W104 ge96).wr W106 ge96).wr W108 ge98).wr W110 ge96).wr W112 ge98).wr W114 ge96).wr W116 ge96).wr W118 ge96).wr W120 ge96).ext E121).keep K123 (allS ge121 all0)).ext E125).2) hz rfl rfl (by decide) (by decide) (fun c hc => ((own_cons hB88 (own_cons hB90 own_nil)) c hc).rng) rfl (by decide) (by decide)) c126 rfl rfl (lenOf pd_10 rfl) rfl (by show 2 * 0 + _ ≤ _; exact Nat.le_of_eq rfl) (hb hby at_194) e125 (by decide) (by decide)
    have N127 := Fr.app N123 N127'
    have R127 := CHr.keep K127 (sfS sf125 sf0) CR125.1
    have CR127 := CR125.trans R127
    have hk127 := Nat.le_trans hk125 R127.2.1
    have c127 : Steps p.tables e below S0 (T127.setTop (mkF m 197 #[.val (.int p0), .val (.int p1), .val (.int (2 : Int32)), .val (.int x88), .val (.int x90), .val (.int x92), .val (.int x94), .val (.ref b96), .val (.ref b98), .val (.ref b121), .unset, .unset] [(.ref b125)])) := c127'
    have c128 : Steps p.tables e below S0 (T127.setTop (mkF m 201 #[.val (.int p0), .val (.int p1), .val (.int (2 : Int32)), .val (.int x88), .val (.int x90), .val (.int x92), .val (.int x94), .val (.ref b96), .val (.ref b98), .val (.ref b121), .val (.ref b125), .unset] [(.ref b121)])) := c127.trans (by
      refine XS.astore X127.here hx rfl (hb hby at_197) rfl rfl (l' := #[.val (.int p0), .val (.int p1), .val (.int (2 : Int32)), .val (.int x88), .val (.int x90), .val (.int x92), .val (.int x94), .val (.ref b96), .val (.ref b98), .val (.ref b121), .val (.ref b125), .unset]) rfl ?_
      refine XS.aload X127.here hx rfl (hb hby at_199) rfl rfl ?_
      exact Steps.refl _)
    obtain ⟨v129, T129, L129, X129, hS129, hZ129, hown129, R129, ⟨N129', x129, t129, kb129, rfl, K129, E129, V129, Cd129, Kb129⟩, c129'⟩ := own_wstat X127 hx hml hZ hown hS0 hk127 (hw _ (List.mem_of_getElem? (i := 34) rfl)) (hw _ (List.mem_of_getElem? (i := 35) rfl)) (hw _ (List.mem_of_getElem? (i := 36) rfl)) (hw _ (List.mem_of_getElem? (i := 37) rfl)) (by decide) (kc := 10) (ks := 100) (h := T127.heap) (W := 0) (argsL := [(.ref b121)]) (rest := []) (own_wpay (W := 0) (rmRN2 l Z a0 hw hEL b121 t123 kb123 x88 x90 x92 x94 z fm T127.heap (((((((((((((((((O0.ext E96).ext E98).wr W100 ge96).wr W102 ge96).wr W104 ge96).wr W106 ge96).wr W108 ge98).wr W110 ge96).wr W112 ge98).wr W114 ge96).wr W116 ge96).wr W118 ge96).wr W120 ge96).ext E121).keep K123 (allS ge121 all0)).ext E125).keep K127 (allS ge125 all0)) ((E123.ext E125).keep K127) ((V123.ext E125).keep K127 (ninS (Nat.ne_of_lt (Nat.lt_of_lt_of_le (Nat.lt_of_lt_of_le A121.lt K123.1) lo125)) nin0)) ((Cd123.ext E125).keep K127 (ninS (Nat.ne_of_lt (Nat.lt_of_lt_of_le (Nat.lt_of_lt_of_le A121.lt K123.1) lo125)) nin0)) ((Kb123.ext E125).keep K127 (ninS (Nat.ne_of_lt (Nat.lt_of_lt_of_le Kb123.lt lo125)) nin0)) hB88 hB90 hB92 hB94 SC hz SF hfm) hZ (hw _ (List.mem_of_getElem? (i := 37) rfl)) (hw _ (List.mem_of_getElem? (i := 36) rfl)) (by decide) (by decide) hEL CR127.1 all0) c128 rfl rfl (lenOf pd_12 rfl) rfl (by show 2 * 0 + _ ≤ _; exact Nat.le_of_eq rfl) (hb hby at_201) rfl (by decide) (by decide)
    have N129 := Fr.app N127 N129'
    have CR129 := CR127.trans R129
    have c129 : Steps p.tables e below S0 (T129.setTop (mkF m 204 #[.val (.int p0), .val (.int p1), .val (.int (2 : Int32)), .val (.int x88), .val (.int x90), .val (.int x92), .val (.int x94), .val (.ref b96), .val (.ref b98), .val (.ref b121), .val (.ref b125), .unset] [(.ref x129)])) := c129'
    have c130 : Steps p.tables e below S0 (T129.setTop (mkF m 210 #[.val (.int p0), .val (.int p1), .val (.int (2 : Int32)), .val (.int x88), .val (.int x90), .val (.int x92), .val (.int x94), .val (.ref b96), .val (.ref b98), .val (.ref b121), .val (.ref b125), .val (.ref x129)] [(.ref b125), (.ref x129)])) := c129.trans (by
      refine XS.astore X129.here hx rfl (hb hby at_204) rfl rfl (l' := #[.val (.int p0), .val (.int p1), .val (.int (2 : Int32)), .val (.int x88), .val (.int x90), .val (.int x92), .val (.int x94), .val (.ref b96), .val (.ref b98), .val (.ref b121), .val (.ref b125), .val (.ref x129)]) rfl ?_
      refine XS.aload X129.here hx rfl (hb hby at_206) rfl rfl ?_
      refine XS.aload X129.here hx rfl (hb hby at_208) rfl rfl ?_
      exact Steps.refl _)
    obtain ⟨v131, T131, L131, X131, ⟨hv131, rfl, e131⟩, c131'⟩ := own_virt X129 hx hml hZ129 hown129 (hw _ (List.mem_of_getElem? (i := 74) rfl)) (hw _ (List.mem_of_getElem? (i := 75) rfl)) (hw _ (List.mem_of_getElem? (i := 77) rfl)) (hw _ (List.mem_of_getElem? (i := 76) rfl)) (hw _ (List.mem_of_getElem? (i := 77) rfl)) (by decide) (Q := fun v h' L => ((v = some (.int 1) ∧ ([x88, x90] : List Int32) = [x88, x90]) ∨ (v = some (.int 0) ∧ ¬ ([x88, x90] : List Int32) = [x88, x90])) ∧ L = [] ∧ h' = T129.heap) (kc := 0) (ks := 0) (h := T129.heap) (W := 0) (b := x129) (argsL := [(.ref b125)]) (rest := []) (StrChars.Road.eqW (s := (s.setVm T129.vm)) (R := room_1) (W := 0) hZ129 (own_we hw) (kI := 4) (hw _ (List.mem_of_getElem? (i := 3) rfl)) (cs := [x88, x90]) E129 V129 Cd129 Kb129 (StrChars.Road.codOf (n := ([x88, x90] : List Int32).length) rfl (fun c hc => ((own_cons hB88 (own_cons hB90 own_nil)) c hc).rng.2)) (fun c hc => ((own_cons hB88 (own_cons hB90 own_nil)) c hc).rng2) (Nat.le_of_ble_eq_true rfl) (ds := [x88, x90]) (E127.keep K129) (V127.keep K129 nin0) (Cd127.keep K129 nin0) (Kb127.keep K129 nin0) (StrChars.Road.codOf (n := ([x88, x90] : List Int32).length) rfl (fun c hc => ((own_cons hB88 (own_cons hB90 own_nil)) c hc).rng.2)) (fun c hc => ((own_cons hB88 (own_cons hB90 own_nil)) c hc).rng2) (Nat.le_of_ble_eq_true rfl) (SC.ext ((((((((((((((((((O0.ext E96).ext E98).wr W100 ge96).wr W102 ge96).wr W104 ge96).wr W106 ge96).wr W108 ge98).wr W110 ge96).wr W112 ge98).wr W114 ge96).wr W116 ge96).wr W118 ge96).wr W120 ge96).ext E121).keep K123 (allS ge121 all0)).ext E125).keep K127 (allS ge125 all0)).keep K129 all0).2) hz (by decide) (by decide)) E129 c130 rfl rfl (lenOf pd_13 rfl) rfl (by show 2 * 0 + _ ≤ _; exact Nat.le_of_eq rfl) (hb hby at_210) rfl (by decide) (by decide)
    have N131 := Fr.app N129 (Fr.nil _)
    rcases hv131 with ⟨rfl, hq131⟩ | ⟨rfl, hq131⟩
    · skip
      have c131 : Steps p.tables e below S0 (T131.setTop (mkF m 213 #[.val (.int p0), .val (.int p1), .val (.int (2 : Int32)), .val (.int x88), .val (.int x90), .val (.int x92), .val (.int x94), .val (.ref b96), .val (.ref b98), .val (.ref b121), .val (.ref b125), .val (.ref x129)] [(.int (1 : Int32))])) := c131'
      refine ⟨T131, T129.vm, _, (some (.int (1 : Int32))), _, _, _, X131, by decide, by decide, (fun q => by cases q), N131, hS129, by rw [e131]; exact (Nat.le_refl _), hZ129, by rw [e131]; exact CR129, ?_, fun fs hr => ?_⟩
      · skip
        exact rfl
      · exact c131.trans (retN X131 hx (t := .boolean) hret (by simp) (hb hby at_213) hr)
    · skip
      have c131 : Steps p.tables e below S0 (T131.setTop (mkF m 213 #[.val (.int p0), .val (.int p1), .val (.int (2 : Int32)), .val (.int x88), .val (.int x90), .val (.int x92), .val (.int x94), .val (.ref b96), .val (.ref b98), .val (.ref b121), .val (.ref b125), .val (.ref x129)] [(.int (0 : Int32))])) := c131'
      exact absurd rfl hq131
  · skip
    have c133 : Steps p.tables e below S0 (s₁.setTop (mkF m 6 #[.val (.int p0), .val (.int p1), .unset, .unset, .unset, .unset, .unset, .unset, .unset, .unset, .unset, .unset] [(.int (3 : Int32))])) := by rw [← hn]; exact c3
    have c134 : Steps p.tables e below S0 (s₁.setTop (mkF m 13 #[.val (.int p0), .val (.int p1), .val (.int (3 : Int32)), .unset, .unset, .unset, .unset, .unset, .unset, .unset, .unset, .unset] [(.int ((p1 &&& (255 : Int32)).toUInt32.toUInt16.toUInt32.toInt32))])) := c133.trans (by
      refine XS.istoreN X0.here hx rfl (hb hby at_6) rfl (l' := #[.val (.int p0), .val (.int p1), .val (.int (3 : Int32)), .unset, .unset, .unset, .unset, .unset, .unset, .unset, .unset, .unset]) rfl ?_
      refine XS.iloadN X0.here hx rfl (hb hby at_7) rfl ?_
      refine XS.sipush X0.here hx rfl (hb hby at_8) ?_
      refine XS.iand X0.here hx rfl (hb hby at_11) rfl ?_
      refine XS.i2c X0.here hx rfl (hb hby at_12) rfl ?_
      exact Steps.refl _)
    obtain ⟨x135, hB135, eq135⟩ := own_bI p1
    have c135 : Steps p.tables e below S0 (s₁.setTop (mkF m 13 #[.val (.int p0), .val (.int p1), .val (.int (3 : Int32)), .unset, .unset, .unset, .unset, .unset, .unset, .unset, .unset, .unset] [(.int x135)])) := by rw [← eq135]; exact c134
    have c136 : Steps p.tables e below S0 (s₁.setTop (mkF m 23 #[.val (.int p0), .val (.int p1), .val (.int (3 : Int32)), .val (.int x135), .unset, .unset, .unset, .unset, .unset, .unset, .unset, .unset] [(.int ((((p1.toUInt32 >>> ((8 : Int32) &&& 31).toUInt32).toInt32) &&& (255 : Int32)).toUInt32.toUInt16.toUInt32.toInt32))])) := c135.trans (by
      refine XS.istoreN X0.here hx rfl (hb hby at_13) rfl (l' := #[.val (.int p0), .val (.int p1), .val (.int (3 : Int32)), .val (.int x135), .unset, .unset, .unset, .unset, .unset, .unset, .unset, .unset]) rfl ?_
      refine XS.iloadN X0.here hx rfl (hb hby at_14) rfl ?_
      refine XS.bipush X0.here hx rfl (hb hby at_15) ?_
      refine XS.iushr X0.here hx rfl (hb hby at_17) rfl ?_
      refine XS.sipush X0.here hx rfl (hb hby at_18) ?_
      refine XS.iand X0.here hx rfl (hb hby at_21) rfl ?_
      refine XS.i2c X0.here hx rfl (hb hby at_22) rfl ?_
      exact Steps.refl _)
    obtain ⟨x137, hB137, eq137⟩ := own_bI ((p1.toUInt32 >>> ((8 : Int32) &&& 31).toUInt32).toInt32)
    have c137 : Steps p.tables e below S0 (s₁.setTop (mkF m 23 #[.val (.int p0), .val (.int p1), .val (.int (3 : Int32)), .val (.int x135), .unset, .unset, .unset, .unset, .unset, .unset, .unset, .unset] [(.int x137)])) := by rw [← eq137]; exact c136
    have c138 : Steps p.tables e below S0 (s₁.setTop (mkF m 34 #[.val (.int p0), .val (.int p1), .val (.int (3 : Int32)), .val (.int x135), .val (.int x137), .unset, .unset, .unset, .unset, .unset, .unset, .unset] [(.int ((((p1.toUInt32 >>> ((16 : Int32) &&& 31).toUInt32).toInt32) &&& (255 : Int32)).toUInt32.toUInt16.toUInt32.toInt32))])) := c137.trans (by
      refine XS.istore X0.here hx rfl (hb hby at_23) rfl (l' := #[.val (.int p0), .val (.int p1), .val (.int (3 : Int32)), .val (.int x135), .val (.int x137), .unset, .unset, .unset, .unset, .unset, .unset, .unset]) rfl ?_
      refine XS.iloadN X0.here hx rfl (hb hby at_25) rfl ?_
      refine XS.bipush X0.here hx rfl (hb hby at_26) ?_
      refine XS.iushr X0.here hx rfl (hb hby at_28) rfl ?_
      refine XS.sipush X0.here hx rfl (hb hby at_29) ?_
      refine XS.iand X0.here hx rfl (hb hby at_32) rfl ?_
      refine XS.i2c X0.here hx rfl (hb hby at_33) rfl ?_
      exact Steps.refl _)
    obtain ⟨x139, hB139, eq139⟩ := own_bI ((p1.toUInt32 >>> ((16 : Int32) &&& 31).toUInt32).toInt32)
    have c139 : Steps p.tables e below S0 (s₁.setTop (mkF m 34 #[.val (.int p0), .val (.int p1), .val (.int (3 : Int32)), .val (.int x135), .val (.int x137), .unset, .unset, .unset, .unset, .unset, .unset, .unset] [(.int x139)])) := by rw [← eq139]; exact c138
    have c140 : Steps p.tables e below S0 (s₁.setTop (mkF m 45 #[.val (.int p0), .val (.int p1), .val (.int (3 : Int32)), .val (.int x135), .val (.int x137), .val (.int x139), .unset, .unset, .unset, .unset, .unset, .unset] [(.int ((((p1.toUInt32 >>> ((24 : Int32) &&& 31).toUInt32).toInt32) &&& (255 : Int32)).toUInt32.toUInt16.toUInt32.toInt32))])) := c139.trans (by
      refine XS.istore X0.here hx rfl (hb hby at_34) rfl (l' := #[.val (.int p0), .val (.int p1), .val (.int (3 : Int32)), .val (.int x135), .val (.int x137), .val (.int x139), .unset, .unset, .unset, .unset, .unset, .unset]) rfl ?_
      refine XS.iloadN X0.here hx rfl (hb hby at_36) rfl ?_
      refine XS.bipush X0.here hx rfl (hb hby at_37) ?_
      refine XS.iushr X0.here hx rfl (hb hby at_39) rfl ?_
      refine XS.sipush X0.here hx rfl (hb hby at_40) ?_
      refine XS.iand X0.here hx rfl (hb hby at_43) rfl ?_
      refine XS.i2c X0.here hx rfl (hb hby at_44) rfl ?_
      exact Steps.refl _)
    obtain ⟨x141, hB141, eq141⟩ := own_bI ((p1.toUInt32 >>> ((24 : Int32) &&& 31).toUInt32).toInt32)
    have c141 : Steps p.tables e below S0 (s₁.setTop (mkF m 45 #[.val (.int p0), .val (.int p1), .val (.int (3 : Int32)), .val (.int x135), .val (.int x137), .val (.int x139), .unset, .unset, .unset, .unset, .unset, .unset] [(.int x141)])) := by rw [← eq141]; exact c140
    have c142 : Steps p.tables e below S0 (s₁.setTop (mkF m 51 #[.val (.int p0), .val (.int p1), .val (.int (3 : Int32)), .val (.int x135), .val (.int x137), .val (.int x139), .val (.int x141), .unset, .unset, .unset, .unset, .unset] [(.int (10 : Int32))])) := c141.trans (by
      refine XS.istore X0.here hx rfl (hb hby at_45) rfl (l' := #[.val (.int p0), .val (.int p1), .val (.int (3 : Int32)), .val (.int x135), .val (.int x137), .val (.int x139), .val (.int x141), .unset, .unset, .unset, .unset, .unset]) rfl ?_
      refine XS.bipush X0.here hx rfl (hb hby at_47) ?_
      refine XS.iloadN X0.here hx rfl (hb hby at_49) rfl ?_
      refine XS.iadd X0.here hx rfl (hb hby at_50) rfl ?_
      exact Steps.refl _)
    obtain ⟨T143, h143, k143, X143, e143, E143, A143, st143⟩ := newP X0 hx hZ (hw _ (List.mem_of_getElem? (i := 1) rfl)) e0 (g := (mkF m 51 #[.val (.int p0), .val (.int p1), .val (.int (3 : Int32)), .val (.int x135), .val (.int x137), .val (.int x139), .val (.int x141), .unset, .unset, .unset, .unset, .unset] [(.int (10 : Int32))])) rfl (hb hby at_51) rfl (by decide) (cap := 10) (by decide) (by decide) (by decide) (by decide)
    obtain ⟨b143, g143⟩ : ∃ z, z = h0.size := ⟨_, rfl⟩
    rw [← g143] at A143 st143
    have lo143 : h0.size ≤ b143 := Nat.le_of_eq g143.symm
    have ge143 : Z.heap.size ≤ b143 := Nat.le_trans O0.2.1 lo143
    have R143 := CHr.ext (EL := EL) E143 CR0.1
    have sf143 := Safe.ext E143 CR0.1 (Safe.new lo143)
    have CR143 := CR0.trans R143
    have hk143 := Nat.le_trans hk0 R143.2.1
    have V143 := Arv.new A143 (by decide)
    have V143a : Arv Z h143 b143 k143 .char (10 : Int32) [(.int (0 : Int32)), (.int (0 : Int32)), (.int (0 : Int32)), (.int (0 : Int32)), (.int (0 : Int32)), (.int (0 : Int32)), (.int (0 : Int32)), (.int (0 : Int32)), (.int (0 : Int32)), (.int (0 : Int32))] (.int (0 : Int32)) := V143.pad (pad_rep [] (.int (0 : Int32)) 10)
    have c143 : Steps p.tables e below S0 (T143.setTop (mkF m 53 #[.val (.int p0), .val (.int p1), .val (.int (3 : Int32)), .val (.int x135), .val (.int x137), .val (.int x139), .val (.int x141), .unset, .unset, .unset, .unset, .unset] [(.ref b143)])) := c142.trans (st143 _ (Steps.refl _))
    have c144 : Steps p.tables e below S0 (T143.setTop (mkF m 56 #[.val (.int p0), .val (.int p1), .val (.int (3 : Int32)), .val (.int x135), .val (.int x137), .val (.int x139), .val (.int x141), .val (.ref b143), .unset, .unset, .unset, .unset] [(.int (3 : Int32))])) := c143.trans (by
      refine XS.astore X143.here hx rfl (hb hby at_53) rfl rfl (l' := #[.val (.int p0), .val (.int p1), .val (.int (3 : Int32)), .val (.int x135), .val (.int x137), .val (.int x139), .val (.int x141), .val (.ref b143), .unset, .unset, .unset, .unset]) rfl ?_
      refine XS.iloadN X143.here hx rfl (hb hby at_55) rfl ?_
      exact Steps.refl _)
    obtain ⟨T145, h145, k145, X145, e145, E145, A145, st145⟩ := newP X143 hx hZ (hw _ (List.mem_of_getElem? (i := 1) rfl)) e143 (g := (mkF m 56 #[.val (.int p0), .val (.int p1), .val (.int (3 : Int32)), .val (.int x135), .val (.int x137), .val (.int x139), .val (.int x141), .val (.ref b143), .unset, .unset, .unset, .unset] [(.int (3 : Int32))])) rfl (hb hby at_56) rfl (by decide) (cap := 3) (by decide) (by decide) (by decide) (by decide)
    obtain ⟨b145, g145⟩ : ∃ z, z = h143.size := ⟨_, rfl⟩
    rw [← g145] at A145 st145
    have lo145 : h143.size ≤ b145 := Nat.le_of_eq g145.symm
    have ge145 : Z.heap.size ≤ b145 := Nat.le_trans (O0.ext E143).2.1 lo145
    have R145 := CHr.ext (EL := EL) E145 CR143.1
    have sf145 := Safe.ext E145 CR143.1 (Safe.new lo145)
    have CR145 := CR143.trans R145
    have hk145 := Nat.le_trans hk143 R145.2.1
    have V145 := Arv.new A145 (by decide)
    have V145a : Arv Z h145 b145 k145 .char (3 : Int32) [(.int (0 : Int32)), (.int (0 : Int32)), (.int (0 : Int32))] (.int (0 : Int32)) := V145.pad (pad_rep [] (.int (0 : Int32)) 3)
    have c145 : Steps p.tables e below S0 (T145.setTop (mkF m 58 #[.val (.int p0), .val (.int p1), .val (.int (3 : Int32)), .val (.int x135), .val (.int x137), .val (.int x139), .val (.int x141), .val (.ref b143), .unset, .unset, .unset, .unset] [(.ref b145)])) := c144.trans (st145 _ (Steps.refl _))
    have c146 : Steps p.tables e below S0 (T145.setTop (mkF m 65 #[.val (.int p0), .val (.int p1), .val (.int (3 : Int32)), .val (.int x135), .val (.int x137), .val (.int x139), .val (.int x141), .val (.ref b143), .val (.ref b145), .unset, .unset, .unset] [(.int (82 : Int32)), (.int (0 : Int32)), (.ref b143)])) := c145.trans (by
      refine XS.astore X145.here hx rfl (hb hby at_58) rfl rfl (l' := #[.val (.int p0), .val (.int p1), .val (.int (3 : Int32)), .val (.int x135), .val (.int x137), .val (.int x139), .val (.int x141), .val (.ref b143), .val (.ref b145), .unset, .unset, .unset]) rfl ?_
      refine XS.aload X145.here hx rfl (hb hby at_60) rfl rfl ?_
      refine XS.iconst X145.here hx rfl (hb hby at_62) ?_
      refine XS.bipush X145.here hx rfl (hb hby at_63) ?_
      exact Steps.refl _)
    obtain ⟨cl147, Ar147, q147, S147, M147, H147, G147⟩ := id (V143a.ext E145)
    have hin147 : ¬ ((0 : Int32) < 0 ∨ cl147.slots.size ≤ ((0 : Int32)).toNatClampNeg) := inb_of S147 ⟨by decide, by decide⟩
    obtain ⟨T147, h147, X147, e147, W147, st147⟩ := stC X145 hx hZ e145 Ar147 (j := (0 : Int32)) hin147 (g := (mkF m 65 #[.val (.int p0), .val (.int p1), .val (.int (3 : Int32)), .val (.int x135), .val (.int x137), .val (.int x139), .val (.int x141), .val (.ref b143), .val (.ref b145), .unset, .unset, .unset] [(.int (82 : Int32)), (.int (0 : Int32)), (.ref b143)])) rfl rfl (hb hby at_65)
    have V147 := Arv.set Ar147 q147 S147 M147 H147 G147 (fits_nar_char _) W147 0 rfl (Nat.le_of_ble_eq_true rfl)
    have N147 := Fr.snoc X147 N0 ge143
    have R147 := CHr.wr W147 (R145.safe V143.lt sf143) CR145.1
    have CR147 := CR145.trans R147
    have hk147 := Nat.le_trans hk145 R147.2.1
    have V147a : Arv Z h147 b143 k143 .char (10 : Int32) [(.int (82 : Int32)), (.int (0 : Int32)), (.int (0 : Int32)), (.int (0 : Int32)), (.int (0 : Int32)), (.int (0 : Int32)), (.int (0 : Int32)), (.int (0 : Int32)), (.int (0 : Int32)), (.int (0 : Int32))] (.int (0 : Int32)) := V147
    have c147 : Steps p.tables e below S0 (T147.setTop (mkF m 66 #[.val (.int p0), .val (.int p1), .val (.int (3 : Int32)), .val (.int x135), .val (.int x137), .val (.int x139), .val (.int x141), .val (.ref b143), .val (.ref b145), .unset, .unset, .unset] [])) := c146.trans (st147 _ (Steps.refl _))
    have c148 : Steps p.tables e below S0 (T147.setTop (mkF m 71 #[.val (.int p0), .val (.int p1), .val (.int (3 : Int32)), .val (.int x135), .val (.int x137), .val (.int x139), .val (.int x141), .val (.ref b143), .val (.ref b145), .unset, .unset, .unset] [(.int (95 : Int32)), (.int (1 : Int32)), (.ref b143)])) := c147.trans (by
      refine XS.aload X147.here hx rfl (hb hby at_66) rfl rfl ?_
      refine XS.iconst X147.here hx rfl (hb hby at_68) ?_
      refine XS.bipush X147.here hx rfl (hb hby at_69) ?_
      exact Steps.refl _)
    obtain ⟨cl149, Ar149, q149, S149, M149, H149, G149⟩ := id V147a
    have hin149 : ¬ ((1 : Int32) < 0 ∨ cl149.slots.size ≤ ((1 : Int32)).toNatClampNeg) := inb_of S149 ⟨by decide, by decide⟩
    obtain ⟨T149, h149, X149, e149, W149, st149⟩ := stC X147 hx hZ e147 Ar149 (j := (1 : Int32)) hin149 (g := (mkF m 71 #[.val (.int p0), .val (.int p1), .val (.int (3 : Int32)), .val (.int x135), .val (.int x137), .val (.int x139), .val (.int x141), .val (.ref b143), .val (.ref b145), .unset, .unset, .unset] [(.int (95 : Int32)), (.int (1 : Int32)), (.ref b143)])) rfl rfl (hb hby at_71)
    have V149 := Arv.set Ar149 q149 S149 M149 H149 G149 (fits_nar_char _) W149 1 rfl (Nat.le_of_ble_eq_true rfl)
    have N149 := Fr.snoc X149 N147 ge143
    have R149 := CHr.wr W149 ((R145.trans R147).safe V143.lt sf143) CR147.1
    have CR149 := CR147.trans R149
    have hk149 := Nat.le_trans hk147 R149.2.1
    have V149a : Arv Z h149 b143 k143 .char (10 : Int32) [(.int (82 : Int32)), (.int (95 : Int32)), (.int (0 : Int32)), (.int (0 : Int32)), (.int (0 : Int32)), (.int (0 : Int32)), (.int (0 : Int32)), (.int (0 : Int32)), (.int (0 : Int32)), (.int (0 : Int32))] (.int (0 : Int32)) := V149
    have c149 : Steps p.tables e below S0 (T149.setTop (mkF m 72 #[.val (.int p0), .val (.int p1), .val (.int (3 : Int32)), .val (.int x135), .val (.int x137), .val (.int x139), .val (.int x141), .val (.ref b143), .val (.ref b145), .unset, .unset, .unset] [])) := c148.trans (st149 _ (Steps.refl _))
    have c150 : Steps p.tables e below S0 (T149.setTop (mkF m 77 #[.val (.int p0), .val (.int p1), .val (.int (3 : Int32)), .val (.int x135), .val (.int x137), .val (.int x139), .val (.int x141), .val (.ref b143), .val (.ref b145), .unset, .unset, .unset] [(.int (95 : Int32)), (.int (2 : Int32)), (.ref b143)])) := c149.trans (by
      refine XS.aload X149.here hx rfl (hb hby at_72) rfl rfl ?_
      refine XS.iconst X149.here hx rfl (hb hby at_74) ?_
      refine XS.bipush X149.here hx rfl (hb hby at_75) ?_
      exact Steps.refl _)
    obtain ⟨cl151, Ar151, q151, S151, M151, H151, G151⟩ := id V149a
    have hin151 : ¬ ((2 : Int32) < 0 ∨ cl151.slots.size ≤ ((2 : Int32)).toNatClampNeg) := inb_of S151 ⟨by decide, by decide⟩
    obtain ⟨T151, h151, X151, e151, W151, st151⟩ := stC X149 hx hZ e149 Ar151 (j := (2 : Int32)) hin151 (g := (mkF m 77 #[.val (.int p0), .val (.int p1), .val (.int (3 : Int32)), .val (.int x135), .val (.int x137), .val (.int x139), .val (.int x141), .val (.ref b143), .val (.ref b145), .unset, .unset, .unset] [(.int (95 : Int32)), (.int (2 : Int32)), (.ref b143)])) rfl rfl (hb hby at_77)
    have V151 := Arv.set Ar151 q151 S151 M151 H151 G151 (fits_nar_char _) W151 2 rfl (Nat.le_of_ble_eq_true rfl)
    have N151 := Fr.snoc X151 N149 ge143
    have R151 := CHr.wr W151 (((R145.trans R147).trans R149).safe V143.lt sf143) CR149.1
    have CR151 := CR149.trans R151
    have hk151 := Nat.le_trans hk149 R151.2.1
    have V151a : Arv Z h151 b143 k143 .char (10 : Int32) [(.int (82 : Int32)), (.int (95 : Int32)), (.int (95 : Int32)), (.int (0 : Int32)), (.int (0 : Int32)), (.int (0 : Int32)), (.int (0 : Int32)), (.int (0 : Int32)), (.int (0 : Int32)), (.int (0 : Int32))] (.int (0 : Int32)) := V151
    have c151 : Steps p.tables e below S0 (T151.setTop (mkF m 78 #[.val (.int p0), .val (.int p1), .val (.int (3 : Int32)), .val (.int x135), .val (.int x137), .val (.int x139), .val (.int x141), .val (.ref b143), .val (.ref b145), .unset, .unset, .unset] [])) := c150.trans (st151 _ (Steps.refl _))
    have c152 : Steps p.tables e below S0 (T151.setTop (mkF m 86 #[.val (.int p0), .val (.int p1), .val (.int (3 : Int32)), .val (.int x135), .val (.int x137), .val (.int x139), .val (.int x141), .val (.ref b143), .val (.ref b145), .unset, .unset, .unset] [(.int x135), (.int (3 : Int32)), (.ref b143)])) := c151.trans (by
      refine XS.iloadN X151.here hx rfl (hb hby at_78) rfl ?_
      refine XS.ifNo X151.here hx rfl (hb hby at_79) rfl ((if0 _ _).trans (tlt (by decide : (0 : Int32) < (3 : Int32))).2.2.2) ?_
      refine XS.aload X151.here hx rfl (hb hby at_82) rfl rfl ?_
      refine XS.iconst X151.here hx rfl (hb hby at_84) ?_
      refine XS.iloadN X151.here hx rfl (hb hby at_85) rfl ?_
      exact Steps.refl _)
    obtain ⟨cl153, Ar153, q153, S153, M153, H153, G153⟩ := id V151a
    have hin153 : ¬ ((3 : Int32) < 0 ∨ cl153.slots.size ≤ ((3 : Int32)).toNatClampNeg) := inb_of S153 ⟨by decide, by decide⟩
    obtain ⟨T153, h153, X153, e153, W153, st153⟩ := stC X151 hx hZ e151 Ar153 (j := (3 : Int32)) hin153 (g := (mkF m 86 #[.val (.int p0), .val (.int p1), .val (.int (3 : Int32)), .val (.int x135), .val (.int x137), .val (.int x139), .val (.int x141), .val (.ref b143), .val (.ref b145), .unset, .unset, .unset] [(.int x135), (.int (3 : Int32)), (.ref b143)])) rfl rfl (hb hby at_86)
    have V153 := Arv.set Ar153 q153 S153 M153 H153 G153 (fits_nar_char _) W153 3 rfl (Nat.le_of_ble_eq_true rfl)
    have N153 := Fr.snoc X153 N151 ge143
    have R153 := CHr.wr W153 ((((R145.trans R147).trans R149).trans R151).safe V143.lt sf143) CR151.1
    have CR153 := CR151.trans R153
    have hk153 := Nat.le_trans hk151 R153.2.1
    rw [hB135.nar] at V153
    have V153a : Arv Z h153 b143 k143 .char (10 : Int32) [(.int (82 : Int32)), (.int (95 : Int32)), (.int (95 : Int32)), (.int x135), (.int (0 : Int32)), (.int (0 : Int32)), (.int (0 : Int32)), (.int (0 : Int32)), (.int (0 : Int32)), (.int (0 : Int32))] (.int (0 : Int32)) := V153
    have c153 : Steps p.tables e below S0 (T153.setTop (mkF m 87 #[.val (.int p0), .val (.int p1), .val (.int (3 : Int32)), .val (.int x135), .val (.int x137), .val (.int x139), .val (.int x141), .val (.ref b143), .val (.ref b145), .unset, .unset, .unset] [])) := c152.trans (st153 _ (Steps.refl _))
    have c154 : Steps p.tables e below S0 (T153.setTop (mkF m 91 #[.val (.int p0), .val (.int p1), .val (.int (3 : Int32)), .val (.int x135), .val (.int x137), .val (.int x139), .val (.int x141), .val (.ref b143), .val (.ref b145), .unset, .unset, .unset] [(.int x135), (.int (0 : Int32)), (.ref b145)])) := c153.trans (by
      refine XS.aload X153.here hx rfl (hb hby at_87) rfl rfl ?_
      refine XS.iconst X153.here hx rfl (hb hby at_89) ?_
      refine XS.iloadN X153.here hx rfl (hb hby at_90) rfl ?_
      exact Steps.refl _)
    obtain ⟨cl155, Ar155, q155, S155, M155, H155, G155⟩ := id ((((V145a.other W147 (Ne.symm (Nat.ne_of_lt (Nat.lt_of_lt_of_le V143.lt lo145)))).other W149 (Ne.symm (Nat.ne_of_lt (Nat.lt_of_lt_of_le V143.lt lo145)))).other W151 (Ne.symm (Nat.ne_of_lt (Nat.lt_of_lt_of_le V143.lt lo145)))).other W153 (Ne.symm (Nat.ne_of_lt (Nat.lt_of_lt_of_le V143.lt lo145))))
    have hin155 : ¬ ((0 : Int32) < 0 ∨ cl155.slots.size ≤ ((0 : Int32)).toNatClampNeg) := inb_of S155 ⟨by decide, by decide⟩
    obtain ⟨T155, h155, X155, e155, W155, st155⟩ := stC X153 hx hZ e153 Ar155 (j := (0 : Int32)) hin155 (g := (mkF m 91 #[.val (.int p0), .val (.int p1), .val (.int (3 : Int32)), .val (.int x135), .val (.int x137), .val (.int x139), .val (.int x141), .val (.ref b143), .val (.ref b145), .unset, .unset, .unset] [(.int x135), (.int (0 : Int32)), (.ref b145)])) rfl rfl (hb hby at_91)
    have V155 := Arv.set Ar155 q155 S155 M155 H155 G155 (fits_nar_char _) W155 0 rfl (Nat.le_of_ble_eq_true rfl)
    have N155 := Fr.snoc X155 N153 ge145
    have R155 := CHr.wr W155 ((((R147.trans R149).trans R151).trans R153).safe V145.lt sf145) CR153.1
    have CR155 := CR153.trans R155
    have hk155 := Nat.le_trans hk153 R155.2.1
    rw [hB135.nar] at V155
    have V155a : Arv Z h155 b145 k145 .char (3 : Int32) [(.int x135), (.int (0 : Int32)), (.int (0 : Int32))] (.int (0 : Int32)) := V155
    have c155 : Steps p.tables e below S0 (T155.setTop (mkF m 92 #[.val (.int p0), .val (.int p1), .val (.int (3 : Int32)), .val (.int x135), .val (.int x137), .val (.int x139), .val (.int x141), .val (.ref b143), .val (.ref b145), .unset, .unset, .unset] [])) := c154.trans (st155 _ (Steps.refl _))
    have c156 : Steps p.tables e below S0 (T155.setTop (mkF m 102 #[.val (.int p0), .val (.int p1), .val (.int (3 : Int32)), .val (.int x135), .val (.int x137), .val (.int x139), .val (.int x141), .val (.ref b143), .val (.ref b145), .unset, .unset, .unset] [(.int x137), (.int (4 : Int32)), (.ref b143)])) := c155.trans (by
      refine XS.iloadN X155.here hx rfl (hb hby at_92) rfl ?_
      refine XS.iconst X155.here hx rfl (hb hby at_93) ?_
      refine XS.icmpNo X155.here hx rfl (hb hby at_94) rfl (tlt (by decide : (1 : Int32) < (3 : Int32))).2.2.2 ?_
      refine XS.aload X155.here hx rfl (hb hby at_97) rfl rfl ?_
      refine XS.iconst X155.here hx rfl (hb hby at_99) ?_
      refine XS.iload X155.here hx rfl (hb hby at_100) rfl ?_
      exact Steps.refl _)
    obtain ⟨cl157, Ar157, q157, S157, M157, H157, G157⟩ := id (V153a.other W155 (Nat.ne_of_lt (Nat.lt_of_lt_of_le V143.lt lo145)))
    have hin157 : ¬ ((4 : Int32) < 0 ∨ cl157.slots.size ≤ ((4 : Int32)).toNatClampNeg) := inb_of S157 ⟨by decide, by decide⟩
    obtain ⟨T157, h157, X157, e157, W157, st157⟩ := stC X155 hx hZ e155 Ar157 (j := (4 : Int32)) hin157 (g := (mkF m 102 #[.val (.int p0), .val (.int p1), .val (.int (3 : Int32)), .val (.int x135), .val (.int x137), .val (.int x139), .val (.int x141), .val (.ref b143), .val (.ref b145), .unset, .unset, .unset] [(.int x137), (.int (4 : Int32)), (.ref b143)])) rfl rfl (hb hby at_102)
    have V157 := Arv.set Ar157 q157 S157 M157 H157 G157 (fits_nar_char _) W157 4 rfl (Nat.le_of_ble_eq_true rfl)
    have N157 := Fr.snoc X157 N155 ge143
    have R157 := CHr.wr W157 ((((((R145.trans R147).trans R149).trans R151).trans R153).trans R155).safe V143.lt sf143) CR155.1
    have CR157 := CR155.trans R157
    have hk157 := Nat.le_trans hk155 R157.2.1
    rw [hB137.nar] at V157
    have V157a : Arv Z h157 b143 k143 .char (10 : Int32) [(.int (82 : Int32)), (.int (95 : Int32)), (.int (95 : Int32)), (.int x135), (.int x137), (.int (0 : Int32)), (.int (0 : Int32)), (.int (0 : Int32)), (.int (0 : Int32)), (.int (0 : Int32))] (.int (0 : Int32)) := V157
    have c157 : Steps p.tables e below S0 (T157.setTop (mkF m 103 #[.val (.int p0), .val (.int p1), .val (.int (3 : Int32)), .val (.int x135), .val (.int x137), .val (.int x139), .val (.int x141), .val (.ref b143), .val (.ref b145), .unset, .unset, .unset] [])) := c156.trans (st157 _ (Steps.refl _))
    have c158 : Steps p.tables e below S0 (T157.setTop (mkF m 108 #[.val (.int p0), .val (.int p1), .val (.int (3 : Int32)), .val (.int x135), .val (.int x137), .val (.int x139), .val (.int x141), .val (.ref b143), .val (.ref b145), .unset, .unset, .unset] [(.int x137), (.int (1 : Int32)), (.ref b145)])) := c157.trans (by
      refine XS.aload X157.here hx rfl (hb hby at_103) rfl rfl ?_
      refine XS.iconst X157.here hx rfl (hb hby at_105) ?_
      refine XS.iload X157.here hx rfl (hb hby at_106) rfl ?_
      exact Steps.refl _)
    obtain ⟨cl159, Ar159, q159, S159, M159, H159, G159⟩ := id (V155a.other W157 (Ne.symm (Nat.ne_of_lt (Nat.lt_of_lt_of_le V143.lt lo145))))
    have hin159 : ¬ ((1 : Int32) < 0 ∨ cl159.slots.size ≤ ((1 : Int32)).toNatClampNeg) := inb_of S159 ⟨by decide, by decide⟩
    obtain ⟨T159, h159, X159, e159, W159, st159⟩ := stC X157 hx hZ e157 Ar159 (j := (1 : Int32)) hin159 (g := (mkF m 108 #[.val (.int p0), .val (.int p1), .val (.int (3 : Int32)), .val (.int x135), .val (.int x137), .val (.int x139), .val (.int x141), .val (.ref b143), .val (.ref b145), .unset, .unset, .unset] [(.int x137), (.int (1 : Int32)), (.ref b145)])) rfl rfl (hb hby at_108)
    have V159 := Arv.set Ar159 q159 S159 M159 H159 G159 (fits_nar_char _) W159 1 rfl (Nat.le_of_ble_eq_true rfl)
    have N159 := Fr.snoc X159 N157 ge145
    have R159 := CHr.wr W159 ((((((R147.trans R149).trans R151).trans R153).trans R155).trans R157).safe V145.lt sf145) CR157.1
    have CR159 := CR157.trans R159
    have hk159 := Nat.le_trans hk157 R159.2.1
    rw [hB137.nar] at V159
    have V159a : Arv Z h159 b145 k145 .char (3 : Int32) [(.int x135), (.int x137), (.int (0 : Int32))] (.int (0 : Int32)) := V159
    have c159 : Steps p.tables e below S0 (T159.setTop (mkF m 109 #[.val (.int p0), .val (.int p1), .val (.int (3 : Int32)), .val (.int x135), .val (.int x137), .val (.int x139), .val (.int x141), .val (.ref b143), .val (.ref b145), .unset, .unset, .unset] [])) := c158.trans (st159 _ (Steps.refl _))
    have c160 : Steps p.tables e below S0 (T159.setTop (mkF m 119 #[.val (.int p0), .val (.int p1), .val (.int (3 : Int32)), .val (.int x135), .val (.int x137), .val (.int x139), .val (.int x141), .val (.ref b143), .val (.ref b145), .unset, .unset, .unset] [(.int x139), (.int (5 : Int32)), (.ref b143)])) := c159.trans (by
      refine XS.iloadN X159.here hx rfl (hb hby at_109) rfl ?_
      refine XS.iconst X159.here hx rfl (hb hby at_110) ?_
      refine XS.icmpNo X159.here hx rfl (hb hby at_111) rfl (tlt (by decide : (2 : Int32) < (3 : Int32))).2.2.2 ?_
      refine XS.aload X159.here hx rfl (hb hby at_114) rfl rfl ?_
      refine XS.iconst X159.here hx rfl (hb hby at_116) ?_
      refine XS.iload X159.here hx rfl (hb hby at_117) rfl ?_
      exact Steps.refl _)
    obtain ⟨cl161, Ar161, q161, S161, M161, H161, G161⟩ := id (V157a.other W159 (Nat.ne_of_lt (Nat.lt_of_lt_of_le V143.lt lo145)))
    have hin161 : ¬ ((5 : Int32) < 0 ∨ cl161.slots.size ≤ ((5 : Int32)).toNatClampNeg) := inb_of S161 ⟨by decide, by decide⟩
    obtain ⟨T161, h161, X161, e161, W161, st161⟩ := stC X159 hx hZ e159 Ar161 (j := (5 : Int32)) hin161 (g := (mkF m 119 #[.val (.int p0), .val (.int p1), .val (.int (3 : Int32)), .val (.int x135), .val (.int x137), .val (.int x139), .val (.int x141), .val (.ref b143), .val (.ref b145), .unset, .unset, .unset] [(.int x139), (.int (5 : Int32)), (.ref b143)])) rfl rfl (hb hby at_119)
    have V161 := Arv.set Ar161 q161 S161 M161 H161 G161 (fits_nar_char _) W161 5 rfl (Nat.le_of_ble_eq_true rfl)
    have N161 := Fr.snoc X161 N159 ge143
    have R161 := CHr.wr W161 ((((((((R145.trans R147).trans R149).trans R151).trans R153).trans R155).trans R157).trans R159).safe V143.lt sf143) CR159.1
    have CR161 := CR159.trans R161
    have hk161 := Nat.le_trans hk159 R161.2.1
    rw [hB139.nar] at V161
    have V161a : Arv Z h161 b143 k143 .char (10 : Int32) [(.int (82 : Int32)), (.int (95 : Int32)), (.int (95 : Int32)), (.int x135), (.int x137), (.int x139), (.int (0 : Int32)), (.int (0 : Int32)), (.int (0 : Int32)), (.int (0 : Int32))] (.int (0 : Int32)) := V161
    have c161 : Steps p.tables e below S0 (T161.setTop (mkF m 120 #[.val (.int p0), .val (.int p1), .val (.int (3 : Int32)), .val (.int x135), .val (.int x137), .val (.int x139), .val (.int x141), .val (.ref b143), .val (.ref b145), .unset, .unset, .unset] [])) := c160.trans (st161 _ (Steps.refl _))
    have c162 : Steps p.tables e below S0 (T161.setTop (mkF m 125 #[.val (.int p0), .val (.int p1), .val (.int (3 : Int32)), .val (.int x135), .val (.int x137), .val (.int x139), .val (.int x141), .val (.ref b143), .val (.ref b145), .unset, .unset, .unset] [(.int x139), (.int (2 : Int32)), (.ref b145)])) := c161.trans (by
      refine XS.aload X161.here hx rfl (hb hby at_120) rfl rfl ?_
      refine XS.iconst X161.here hx rfl (hb hby at_122) ?_
      refine XS.iload X161.here hx rfl (hb hby at_123) rfl ?_
      exact Steps.refl _)
    obtain ⟨cl163, Ar163, q163, S163, M163, H163, G163⟩ := id (V159a.other W161 (Ne.symm (Nat.ne_of_lt (Nat.lt_of_lt_of_le V143.lt lo145))))
    have hin163 : ¬ ((2 : Int32) < 0 ∨ cl163.slots.size ≤ ((2 : Int32)).toNatClampNeg) := inb_of S163 ⟨by decide, by decide⟩
    obtain ⟨T163, h163, X163, e163, W163, st163⟩ := stC X161 hx hZ e161 Ar163 (j := (2 : Int32)) hin163 (g := (mkF m 125 #[.val (.int p0), .val (.int p1), .val (.int (3 : Int32)), .val (.int x135), .val (.int x137), .val (.int x139), .val (.int x141), .val (.ref b143), .val (.ref b145), .unset, .unset, .unset] [(.int x139), (.int (2 : Int32)), (.ref b145)])) rfl rfl (hb hby at_125)
    have V163 := Arv.set Ar163 q163 S163 M163 H163 G163 (fits_nar_char _) W163 2 rfl (Nat.le_of_ble_eq_true rfl)
    have N163 := Fr.snoc X163 N161 ge145
    have R163 := CHr.wr W163 ((((((((R147.trans R149).trans R151).trans R153).trans R155).trans R157).trans R159).trans R161).safe V145.lt sf145) CR161.1
    have CR163 := CR161.trans R163
    have hk163 := Nat.le_trans hk161 R163.2.1
    rw [hB139.nar] at V163
    have V163a : Arv Z h163 b145 k145 .char (3 : Int32) [(.int x135), (.int x137), (.int x139)] (.int (0 : Int32)) := V163
    have c163 : Steps p.tables e below S0 (T163.setTop (mkF m 126 #[.val (.int p0), .val (.int p1), .val (.int (3 : Int32)), .val (.int x135), .val (.int x137), .val (.int x139), .val (.int x141), .val (.ref b143), .val (.ref b145), .unset, .unset, .unset] [])) := c162.trans (st163 _ (Steps.refl _))
    have c164 : Steps p.tables e below S0 (T163.setTop (mkF m 151 #[.val (.int p0), .val (.int p1), .val (.int (3 : Int32)), .val (.int x135), .val (.int x137), .val (.int x139), .val (.int x141), .val (.ref b143), .val (.ref b145), .unset, .unset, .unset] [(.int (46 : Int32)), (.int (6 : Int32)), (.ref b143)])) := c163.trans (by
      refine XS.iloadN X163.here hx rfl (hb hby at_126) rfl ?_
      refine XS.iconst X163.here hx rfl (hb hby at_127) ?_
      refine XS.icmpYes X163.here hx rfl (pc0 := 128) (pc' := 144) rfl (hb hby at_128) rfl (flt (by decide : ¬ ((3 : Int32) < (3 : Int32)))).2.2.2 (by decide) (by decide) ?_
      refine XS.aload X163.here hx rfl (hb hby at_144) rfl rfl ?_
      refine XS.iconst X163.here hx rfl (hb hby at_146) ?_
      refine XS.iloadN X163.here hx rfl (hb hby at_147) rfl ?_
      refine XS.iadd X163.here hx rfl (hb hby at_148) rfl ?_
      refine XS.bipush X163.here hx rfl (hb hby at_149) ?_
      exact Steps.refl _)
    obtain ⟨cl165, Ar165, q165, S165, M165, H165, G165⟩ := id (V161a.other W163 (Nat.ne_of_lt (Nat.lt_of_lt_of_le V143.lt lo145)))
    have hin165 : ¬ ((6 : Int32) < 0 ∨ cl165.slots.size ≤ ((6 : Int32)).toNatClampNeg) := inb_of S165 ⟨by decide, by decide⟩
    obtain ⟨T165, h165, X165, e165, W165, st165⟩ := stC X163 hx hZ e163 Ar165 (j := (6 : Int32)) hin165 (g := (mkF m 151 #[.val (.int p0), .val (.int p1), .val (.int (3 : Int32)), .val (.int x135), .val (.int x137), .val (.int x139), .val (.int x141), .val (.ref b143), .val (.ref b145), .unset, .unset, .unset] [(.int (46 : Int32)), (.int (6 : Int32)), (.ref b143)])) rfl rfl (hb hby at_151)
    have V165 := Arv.set Ar165 q165 S165 M165 H165 G165 (fits_nar_char _) W165 6 rfl (Nat.le_of_ble_eq_true rfl)
    have N165 := Fr.snoc X165 N163 ge143
    have R165 := CHr.wr W165 ((((((((((R145.trans R147).trans R149).trans R151).trans R153).trans R155).trans R157).trans R159).trans R161).trans R163).safe V143.lt sf143) CR163.1
    have CR165 := CR163.trans R165
    have hk165 := Nat.le_trans hk163 R165.2.1
    have V165a : Arv Z h165 b143 k143 .char (10 : Int32) [(.int (82 : Int32)), (.int (95 : Int32)), (.int (95 : Int32)), (.int x135), (.int x137), (.int x139), (.int (46 : Int32)), (.int (0 : Int32)), (.int (0 : Int32)), (.int (0 : Int32))] (.int (0 : Int32)) := V165
    have c165 : Steps p.tables e below S0 (T165.setTop (mkF m 152 #[.val (.int p0), .val (.int p1), .val (.int (3 : Int32)), .val (.int x135), .val (.int x137), .val (.int x139), .val (.int x141), .val (.ref b143), .val (.ref b145), .unset, .unset, .unset] [])) := c164.trans (st165 _ (Steps.refl _))
    have c166 : Steps p.tables e below S0 (T165.setTop (mkF m 159 #[.val (.int p0), .val (.int p1), .val (.int (3 : Int32)), .val (.int x135), .val (.int x137), .val (.int x139), .val (.int x141), .val (.ref b143), .val (.ref b145), .unset, .unset, .unset] [(.int (115 : Int32)), (.int (7 : Int32)), (.ref b143)])) := c165.trans (by
      refine XS.aload X165.here hx rfl (hb hby at_152) rfl rfl ?_
      refine XS.iconst X165.here hx rfl (hb hby at_154) ?_
      refine XS.iloadN X165.here hx rfl (hb hby at_155) rfl ?_
      refine XS.iadd X165.here hx rfl (hb hby at_156) rfl ?_
      refine XS.bipush X165.here hx rfl (hb hby at_157) ?_
      exact Steps.refl _)
    obtain ⟨cl167, Ar167, q167, S167, M167, H167, G167⟩ := id V165a
    have hin167 : ¬ ((7 : Int32) < 0 ∨ cl167.slots.size ≤ ((7 : Int32)).toNatClampNeg) := inb_of S167 ⟨by decide, by decide⟩
    obtain ⟨T167, h167, X167, e167, W167, st167⟩ := stC X165 hx hZ e165 Ar167 (j := (7 : Int32)) hin167 (g := (mkF m 159 #[.val (.int p0), .val (.int p1), .val (.int (3 : Int32)), .val (.int x135), .val (.int x137), .val (.int x139), .val (.int x141), .val (.ref b143), .val (.ref b145), .unset, .unset, .unset] [(.int (115 : Int32)), (.int (7 : Int32)), (.ref b143)])) rfl rfl (hb hby at_159)
    have V167 := Arv.set Ar167 q167 S167 M167 H167 G167 (fits_nar_char _) W167 7 rfl (Nat.le_of_ble_eq_true rfl)
    have N167 := Fr.snoc X167 N165 ge143
    have R167 := CHr.wr W167 (((((((((((R145.trans R147).trans R149).trans R151).trans R153).trans R155).trans R157).trans R159).trans R161).trans R163).trans R165).safe V143.lt sf143) CR165.1
    have CR167 := CR165.trans R167
    have hk167 := Nat.le_trans hk165 R167.2.1
    have V167a : Arv Z h167 b143 k143 .char (10 : Int32) [(.int (82 : Int32)), (.int (95 : Int32)), (.int (95 : Int32)), (.int x135), (.int x137), (.int x139), (.int (46 : Int32)), (.int (115 : Int32)), (.int (0 : Int32)), (.int (0 : Int32))] (.int (0 : Int32)) := V167
    have c167 : Steps p.tables e below S0 (T167.setTop (mkF m 160 #[.val (.int p0), .val (.int p1), .val (.int (3 : Int32)), .val (.int x135), .val (.int x137), .val (.int x139), .val (.int x141), .val (.ref b143), .val (.ref b145), .unset, .unset, .unset] [])) := c166.trans (st167 _ (Steps.refl _))
    have c168 : Steps p.tables e below S0 (T167.setTop (mkF m 167 #[.val (.int p0), .val (.int p1), .val (.int (3 : Int32)), .val (.int x135), .val (.int x137), .val (.int x139), .val (.int x141), .val (.ref b143), .val (.ref b145), .unset, .unset, .unset] [(.int (113 : Int32)), (.int (8 : Int32)), (.ref b143)])) := c167.trans (by
      refine XS.aload X167.here hx rfl (hb hby at_160) rfl rfl ?_
      refine XS.iconst X167.here hx rfl (hb hby at_162) ?_
      refine XS.iloadN X167.here hx rfl (hb hby at_163) rfl ?_
      refine XS.iadd X167.here hx rfl (hb hby at_164) rfl ?_
      refine XS.bipush X167.here hx rfl (hb hby at_165) ?_
      exact Steps.refl _)
    obtain ⟨cl169, Ar169, q169, S169, M169, H169, G169⟩ := id V167a
    have hin169 : ¬ ((8 : Int32) < 0 ∨ cl169.slots.size ≤ ((8 : Int32)).toNatClampNeg) := inb_of S169 ⟨by decide, by decide⟩
    obtain ⟨T169, h169, X169, e169, W169, st169⟩ := stC X167 hx hZ e167 Ar169 (j := (8 : Int32)) hin169 (g := (mkF m 167 #[.val (.int p0), .val (.int p1), .val (.int (3 : Int32)), .val (.int x135), .val (.int x137), .val (.int x139), .val (.int x141), .val (.ref b143), .val (.ref b145), .unset, .unset, .unset] [(.int (113 : Int32)), (.int (8 : Int32)), (.ref b143)])) rfl rfl (hb hby at_167)
    have V169 := Arv.set Ar169 q169 S169 M169 H169 G169 (fits_nar_char _) W169 8 rfl (Nat.le_of_ble_eq_true rfl)
    have N169 := Fr.snoc X169 N167 ge143
    have R169 := CHr.wr W169 ((((((((((((R145.trans R147).trans R149).trans R151).trans R153).trans R155).trans R157).trans R159).trans R161).trans R163).trans R165).trans R167).safe V143.lt sf143) CR167.1
    have CR169 := CR167.trans R169
    have hk169 := Nat.le_trans hk167 R169.2.1
    have V169a : Arv Z h169 b143 k143 .char (10 : Int32) [(.int (82 : Int32)), (.int (95 : Int32)), (.int (95 : Int32)), (.int x135), (.int x137), (.int x139), (.int (46 : Int32)), (.int (115 : Int32)), (.int (113 : Int32)), (.int (0 : Int32))] (.int (0 : Int32)) := V169
    have c169 : Steps p.tables e below S0 (T169.setTop (mkF m 168 #[.val (.int p0), .val (.int p1), .val (.int (3 : Int32)), .val (.int x135), .val (.int x137), .val (.int x139), .val (.int x141), .val (.ref b143), .val (.ref b145), .unset, .unset, .unset] [])) := c168.trans (st169 _ (Steps.refl _))
    have c170 : Steps p.tables e below S0 (T169.setTop (mkF m 176 #[.val (.int p0), .val (.int p1), .val (.int (3 : Int32)), .val (.int x135), .val (.int x137), .val (.int x139), .val (.int x141), .val (.ref b143), .val (.ref b145), .unset, .unset, .unset] [(.int (108 : Int32)), (.int (9 : Int32)), (.ref b143)])) := c169.trans (by
      refine XS.aload X169.here hx rfl (hb hby at_168) rfl rfl ?_
      refine XS.bipush X169.here hx rfl (hb hby at_170) ?_
      refine XS.iloadN X169.here hx rfl (hb hby at_172) rfl ?_
      refine XS.iadd X169.here hx rfl (hb hby at_173) rfl ?_
      refine XS.bipush X169.here hx rfl (hb hby at_174) ?_
      exact Steps.refl _)
    obtain ⟨cl171, Ar171, q171, S171, M171, H171, G171⟩ := id V169a
    have hin171 : ¬ ((9 : Int32) < 0 ∨ cl171.slots.size ≤ ((9 : Int32)).toNatClampNeg) := inb_of S171 ⟨by decide, by decide⟩
    obtain ⟨T171, h171, X171, e171, W171, st171⟩ := stC X169 hx hZ e169 Ar171 (j := (9 : Int32)) hin171 (g := (mkF m 176 #[.val (.int p0), .val (.int p1), .val (.int (3 : Int32)), .val (.int x135), .val (.int x137), .val (.int x139), .val (.int x141), .val (.ref b143), .val (.ref b145), .unset, .unset, .unset] [(.int (108 : Int32)), (.int (9 : Int32)), (.ref b143)])) rfl rfl (hb hby at_176)
    have V171 := Arv.set Ar171 q171 S171 M171 H171 G171 (fits_nar_char _) W171 9 rfl (Nat.le_of_ble_eq_true rfl)
    have N171 := Fr.snoc X171 N169 ge143
    have R171 := CHr.wr W171 (((((((((((((R145.trans R147).trans R149).trans R151).trans R153).trans R155).trans R157).trans R159).trans R161).trans R163).trans R165).trans R167).trans R169).safe V143.lt sf143) CR169.1
    have CR171 := CR169.trans R171
    have hk171 := Nat.le_trans hk169 R171.2.1
    have V171a : Arv Z h171 b143 k143 .char (10 : Int32) [(.int (82 : Int32)), (.int (95 : Int32)), (.int (95 : Int32)), (.int x135), (.int x137), (.int x139), (.int (46 : Int32)), (.int (115 : Int32)), (.int (113 : Int32)), (.int (108 : Int32))] (.int (0 : Int32)) := V171
    have c171 : Steps p.tables e below S0 (T171.setTop (mkF m 177 #[.val (.int p0), .val (.int p1), .val (.int (3 : Int32)), .val (.int x135), .val (.int x137), .val (.int x139), .val (.int x141), .val (.ref b143), .val (.ref b145), .unset, .unset, .unset] [])) := c170.trans (st171 _ (Steps.refl _))
    obtain ⟨T172, h172, X172, e172, E172, A172, D172, -, st172⟩ := newO X171 hx hZ hown (hw _ (List.mem_of_getElem? (i := 2) rfl)) (hw _ (List.mem_of_getElem? (i := 3) rfl)) (hw _ (List.mem_of_getElem? (i := 4) rfl)) e171 (g := (mkF m 177 #[.val (.int p0), .val (.int p1), .val (.int (3 : Int32)), .val (.int x135), .val (.int x137), .val (.int x139), .val (.int x141), .val (.ref b143), .val (.ref b145), .unset, .unset, .unset] [])) rfl (hb hby at_177) (by decide) (by decide)
    obtain ⟨b172, g172⟩ : ∃ z, z = h171.size := ⟨_, rfl⟩
    rw [← g172] at A172 D172 st172
    have lo172 : h171.size ≤ b172 := Nat.le_of_eq g172.symm
    have ge172 : Z.heap.size ≤ b172 := Nat.le_trans (((((((((((((((O0.ext E143).ext E145).wr W147 ge143).wr W149 ge143).wr W151 ge143).wr W153 ge143).wr W155 ge145).wr W157 ge143).wr W159 ge145).wr W161 ge143).wr W163 ge145).wr W165 ge143).wr W167 ge143).wr W169 ge143).wr W171 ge143).2.1 lo172
    have R172 := CHr.ext (EL := EL) E172 CR171.1
    have sf172 := Safe.ext E172 CR171.1 (Safe.new lo172)
    have CR172 := CR171.trans R172
    have hk172 := Nat.le_trans hk171 R172.2.1
    have F172_coder : Fld Z h172 b172 "java/lang/String" "coder" "B" (.int (0 : Int32)) := D172 (Or.inr (hw _ (List.mem_of_getElem? (i := 28) rfl))) (ty := .byte) (by decide)
    have F172_value : Fld Z h172 b172 "java/lang/String" "value" "[B" .null := D172 (Or.inr (hw _ (List.mem_of_getElem? (i := 30) rfl))) (ty := (.array .byte)) (by decide)
    have c172 : Steps p.tables e below S0 (T172.setTop (mkF m 180 #[.val (.int p0), .val (.int p1), .val (.int (3 : Int32)), .val (.int x135), .val (.int x137), .val (.int x139), .val (.int x141), .val (.ref b143), .val (.ref b145), .unset, .unset, .unset] [(.ref b172)])) := c171.trans (st172 _ (Steps.refl _))
    have c173 : Steps p.tables e below S0 (T172.setTop (mkF m 183 #[.val (.int p0), .val (.int p1), .val (.int (3 : Int32)), .val (.int x135), .val (.int x137), .val (.int x139), .val (.int x141), .val (.ref b143), .val (.ref b145), .unset, .unset, .unset] [(.ref b143), (.ref b172), (.ref b172)])) := c172.trans (by
      refine XS.dup X172.here hx rfl (hb hby at_180) rfl rfl ?_
      refine XS.aload X172.here hx rfl (hb hby at_181) rfl rfl ?_
      exact Steps.refl _)
    obtain ⟨v174, T174, L174, X174, ⟨rfl, N174', K174, E174, Cd174, t174, kb174, gt174, lo174, ne174, V174, Kb174⟩, c174'⟩ := own_spec X172 hx hml hZ hown rfl (hw _ (List.mem_of_getElem? (i := 5) rfl)) (hw _ (List.mem_of_getElem? (i := 6) rfl)) (hw _ (List.mem_of_getElem? (i := 7) rfl)) (by decide) (Q := StrChars.Road.QV Z b172 (10 : Int32) (([(82 : Int32), (95 : Int32), (95 : Int32), x135, x137, x139, (46 : Int32), (115 : Int32), (113 : Int32), (108 : Int32)] : List Int32).map (fun c : Int32 => c.toInt8.toInt32)) h172 Z.heap.size) (kc := 1) (ks := 10) (h := h172) (W := 1) (b := b172) (argsL := [(.ref b143)]) (rest := [(.ref b172)]) (StrChars.Road.backV (s := (s.setVm s.vm)) (R := room_1) (W := 1) hZ (own_wi hw) (kI := 4) (hw _ (List.mem_of_getElem? (i := 3) rfl)) (cs := [(82 : Int32), (95 : Int32), (95 : Int32), x135, x137, x139, (46 : Int32), (115 : Int32), (113 : Int32), (108 : Int32)]) (bs := ([(82 : Int32), (95 : Int32), (95 : Int32), x135, x137, x139, (46 : Int32), (115 : Int32), (113 : Int32), (108 : Int32)] : List Int32).map (fun c : Int32 => c.toInt8.toInt32)) (n := 10) ge172 ((((((((((((((((O0.ext E143).ext E145).wr W147 ge143).wr W149 ge143).wr W151 ge143).wr W153 ge143).wr W155 ge145).wr W157 ge143).wr W159 ge145).wr W161 ge143).wr W163 ge145).wr W165 ge143).wr W167 ge143).wr W169 ge143).wr W171 ge143).ext E172).2.1 A172 F172_value F172_coder (V171a.ext E172) (SC.ext ((((((((((((((((O0.ext E143).ext E145).wr W147 ge143).wr W149 ge143).wr W151 ge143).wr W153 ge143).wr W155 ge145).wr W157 ge143).wr W159 ge145).wr W161 ge143).wr W163 ge145).wr W165 ge143).wr W167 ge143).wr W169 ge143).wr W171 ge143).ext E172).2) hz rfl rfl (by decide) (by decide) (fun c hc => ((own_cons (own_Bl 82 (by decide)) (own_cons (own_Bl 95 (by decide)) (own_cons (own_Bl 95 (by decide)) (own_cons hB135 (own_cons hB137 (own_cons hB139 (own_cons (own_Bl 46 (by decide)) (own_cons (own_Bl 115 (by decide)) (own_cons (own_Bl 113 (by decide)) (own_cons (own_Bl 108 (by decide)) own_nil)))))))))) c hc).rng) rfl (by decide) (by decide)) c173 rfl rfl (lenOf pd_10 rfl) rfl (by show 2 * 0 + _ ≤ _; exact Nat.le_of_eq rfl) (hb hby at_183) e172 (by decide) (by decide)
    have N174 := Fr.app N171 N174'
    have R174 := CHr.keep K174 (sfS sf172 sf0) CR172.1
    have CR174 := CR172.trans R174
    have hk174 := Nat.le_trans hk172 R174.2.1
    have c174 : Steps p.tables e below S0 (T174.setTop (mkF m 186 #[.val (.int p0), .val (.int p1), .val (.int (3 : Int32)), .val (.int x135), .val (.int x137), .val (.int x139), .val (.int x141), .val (.ref b143), .val (.ref b145), .unset, .unset, .unset] [(.ref b172)])) := c174'
    have c175 : Steps p.tables e below S0 (T174.setTop (mkF m 188 #[.val (.int p0), .val (.int p1), .val (.int (3 : Int32)), .val (.int x135), .val (.int x137), .val (.int x139), .val (.int x141), .val (.ref b143), .val (.ref b145), .val (.ref b172), .unset, .unset] [])) := c174.trans (by
      refine XS.astore X174.here hx rfl (hb hby at_186) rfl rfl (l' := #[.val (.int p0), .val (.int p1), .val (.int (3 : Int32)), .val (.int x135), .val (.int x137), .val (.int x139), .val (.int x141), .val (.ref b143), .val (.ref b145), .val (.ref b172), .unset, .unset]) rfl ?_
      exact Steps.refl _)
    obtain ⟨T176, h176, X176, e176, E176, A176, D176, -, st176⟩ := newO X174 hx hZ hown (hw _ (List.mem_of_getElem? (i := 2) rfl)) (hw _ (List.mem_of_getElem? (i := 3) rfl)) (hw _ (List.mem_of_getElem? (i := 4) rfl)) rfl (g := (mkF m 188 #[.val (.int p0), .val (.int p1), .val (.int (3 : Int32)), .val (.int x135), .val (.int x137), .val (.int x139), .val (.int x141), .val (.ref b143), .val (.ref b145), .val (.ref b172), .unset, .unset] [])) rfl (hb hby at_188) (by decide) (by decide)
    obtain ⟨b176, g176⟩ : ∃ z, z = T174.heap.size := ⟨_, rfl⟩
    rw [← g176] at A176 D176 st176
    have lo176 : T174.heap.size ≤ b176 := Nat.le_of_eq g176.symm
    have ge176 : Z.heap.size ≤ b176 := Nat.le_trans (((((((((((((((((O0.ext E143).ext E145).wr W147 ge143).wr W149 ge143).wr W151 ge143).wr W153 ge143).wr W155 ge145).wr W157 ge143).wr W159 ge145).wr W161 ge143).wr W163 ge145).wr W165 ge143).wr W167 ge143).wr W169 ge143).wr W171 ge143).ext E172).keep K174 (allS ge172 all0)).2.1 lo176
    have R176 := CHr.ext (EL := EL) E176 CR174.1
    have sf176 := Safe.ext E176 CR174.1 (Safe.new lo176)
    have CR176 := CR174.trans R176
    have hk176 := Nat.le_trans hk174 R176.2.1
    have F176_coder : Fld Z h176 b176 "java/lang/String" "coder" "B" (.int (0 : Int32)) := D176 (Or.inr (hw _ (List.mem_of_getElem? (i := 28) rfl))) (ty := .byte) (by decide)
    have F176_value : Fld Z h176 b176 "java/lang/String" "value" "[B" .null := D176 (Or.inr (hw _ (List.mem_of_getElem? (i := 30) rfl))) (ty := (.array .byte)) (by decide)
    have c176 : Steps p.tables e below S0 (T176.setTop (mkF m 191 #[.val (.int p0), .val (.int p1), .val (.int (3 : Int32)), .val (.int x135), .val (.int x137), .val (.int x139), .val (.int x141), .val (.ref b143), .val (.ref b145), .val (.ref b172), .unset, .unset] [(.ref b176)])) := c175.trans (st176 _ (Steps.refl _))
    have c177 : Steps p.tables e below S0 (T176.setTop (mkF m 194 #[.val (.int p0), .val (.int p1), .val (.int (3 : Int32)), .val (.int x135), .val (.int x137), .val (.int x139), .val (.int x141), .val (.ref b143), .val (.ref b145), .val (.ref b172), .unset, .unset] [(.ref b145), (.ref b176), (.ref b176)])) := c176.trans (by
      refine XS.dup X176.here hx rfl (hb hby at_191) rfl rfl ?_
      refine XS.aload X176.here hx rfl (hb hby at_192) rfl rfl ?_
      exact Steps.refl _)
    obtain ⟨v178, T178, L178, X178, ⟨rfl, N178', K178, E178, Cd178, t178, kb178, gt178, lo178, ne178, V178, Kb178⟩, c178'⟩ := own_spec X176 hx hml hZ hown rfl (hw _ (List.mem_of_getElem? (i := 5) rfl)) (hw _ (List.mem_of_getElem? (i := 6) rfl)) (hw _ (List.mem_of_getElem? (i := 7) rfl)) (by decide) (Q := StrChars.Road.QV Z b176 (3 : Int32) (([x135, x137, x139] : List Int32).map (fun c : Int32 => c.toInt8.toInt32)) h176 Z.heap.size) (kc := 1) (ks := 3) (h := h176) (W := 1) (b := b176) (argsL := [(.ref b145)]) (rest := [(.ref b176)]) (StrChars.Road.backV (s := (s.setVm s.vm)) (R := room_1) (W := 1) hZ (own_wi hw) (kI := 4) (hw _ (List.mem_of_getElem? (i := 3) rfl)) (cs := [x135, x137, x139]) (bs := ([x135, x137, x139] : List Int32).map (fun c : Int32 => c.toInt8.toInt32)) (n := 3) ge176 ((((((((((((((((((O0.ext E143).ext E145).wr W147 ge143).wr W149 ge143).wr W151 ge143).wr W153 ge143).wr W155 ge145).wr W157 ge143).wr W159 ge145).wr W161 ge143).wr W163 ge145).wr W165 ge143).wr W167 ge143).wr W169 ge143).wr W171 ge143).ext E172).keep K174 (allS ge172 all0)).ext E176).2.1 A176 F176_value F176_coder (((((((V163a.other W165 (Ne.symm (Nat.ne_of_lt (Nat.lt_of_lt_of_le V143.lt lo145)))).other W167 (Ne.symm (Nat.ne_of_lt (Nat.lt_of_lt_of_le V143.lt lo145)))).other W169 (Ne.symm (Nat.ne_of_lt (Nat.lt_of_lt_of_le V143.lt lo145)))).other W171 (Ne.symm (Nat.ne_of_lt (Nat.lt_of_lt_of_le V143.lt lo145)))).ext E172).keep K174 (ninS (Nat.ne_of_lt (Nat.lt_of_lt_of_le (Nat.lt_of_lt_of_le V145.lt (Nat.le_trans (Nat.le_trans (Nat.le_trans (Nat.le_trans (Nat.le_trans (Nat.le_trans (Nat.le_trans (Nat.le_trans (Nat.le_trans (Nat.le_trans (Nat.le_trans (Nat.le_trans (Keep.of_wr W147).1 (Keep.of_wr W149).1) (Keep.of_wr W151).1) (Keep.of_wr W153).1) (Keep.of_wr W155).1) (Keep.of_wr W157).1) (Keep.of_wr W159).1) (Keep.of_wr W161).1) (Keep.of_wr W163).1) (Keep.of_wr W165).1) (Keep.of_wr W167).1) (Keep.of_wr W169).1) (Keep.of_wr W171).1)) lo172)) nin0)).ext E176) (SC.ext ((((((((((((((((((O0.ext E143).ext E145).wr W147 ge143).wr W149 ge143).wr W151 ge143).wr W153 ge143).wr W155 ge145).wr W157 ge143).wr W159 ge145).wr W161 ge143).wr W163 ge145).wr W165 ge143).wr W167 ge143).wr W169 ge143).wr W171 ge143).ext E172).keep K174 (allS ge172 all0)).ext E176).2) hz rfl rfl (by decide) (by decide) (fun c hc => ((own_cons hB135 (own_cons hB137 (own_cons hB139 own_nil))) c hc).rng) rfl (by decide) (by decide)) c177 rfl rfl (lenOf pd_10 rfl) rfl (by show 2 * 0 + _ ≤ _; exact Nat.le_of_eq rfl) (hb hby at_194) e176 (by decide) (by decide)
    have N178 := Fr.app N174 N178'
    have R178 := CHr.keep K178 (sfS sf176 sf0) CR176.1
    have CR178 := CR176.trans R178
    have hk178 := Nat.le_trans hk176 R178.2.1
    have c178 : Steps p.tables e below S0 (T178.setTop (mkF m 197 #[.val (.int p0), .val (.int p1), .val (.int (3 : Int32)), .val (.int x135), .val (.int x137), .val (.int x139), .val (.int x141), .val (.ref b143), .val (.ref b145), .val (.ref b172), .unset, .unset] [(.ref b176)])) := c178'
    have c179 : Steps p.tables e below S0 (T178.setTop (mkF m 201 #[.val (.int p0), .val (.int p1), .val (.int (3 : Int32)), .val (.int x135), .val (.int x137), .val (.int x139), .val (.int x141), .val (.ref b143), .val (.ref b145), .val (.ref b172), .val (.ref b176), .unset] [(.ref b172)])) := c178.trans (by
      refine XS.astore X178.here hx rfl (hb hby at_197) rfl rfl (l' := #[.val (.int p0), .val (.int p1), .val (.int (3 : Int32)), .val (.int x135), .val (.int x137), .val (.int x139), .val (.int x141), .val (.ref b143), .val (.ref b145), .val (.ref b172), .val (.ref b176), .unset]) rfl ?_
      refine XS.aload X178.here hx rfl (hb hby at_199) rfl rfl ?_
      exact Steps.refl _)
    obtain ⟨v180, T180, L180, X180, hS180, hZ180, hown180, R180, ⟨N180', x180, t180, kb180, rfl, K180, E180, V180, Cd180, Kb180⟩, c180'⟩ := own_wstat X178 hx hml hZ hown hS0 hk178 (hw _ (List.mem_of_getElem? (i := 34) rfl)) (hw _ (List.mem_of_getElem? (i := 35) rfl)) (hw _ (List.mem_of_getElem? (i := 36) rfl)) (hw _ (List.mem_of_getElem? (i := 37) rfl)) (by decide) (kc := 10) (ks := 100) (h := T178.heap) (W := 0) (argsL := [(.ref b172)]) (rest := []) (own_wpay (W := 0) (rmRN3 l Z a0 hw hEL b172 t174 kb174 x135 x137 x139 x141 z fm T178.heap (((((((((((((((((((O0.ext E143).ext E145).wr W147 ge143).wr W149 ge143).wr W151 ge143).wr W153 ge143).wr W155 ge145).wr W157 ge143).wr W159 ge145).wr W161 ge143).wr W163 ge145).wr W165 ge143).wr W167 ge143).wr W169 ge143).wr W171 ge143).ext E172).keep K174 (allS ge172 all0)).ext E176).keep K178 (allS ge176 all0)) ((E174.ext E176).keep K178) ((V174.ext E176).keep K178 (ninS (Nat.ne_of_lt (Nat.lt_of_lt_of_le (Nat.lt_of_lt_of_le A172.lt K174.1) lo176)) nin0)) ((Cd174.ext E176).keep K178 (ninS (Nat.ne_of_lt (Nat.lt_of_lt_of_le (Nat.lt_of_lt_of_le A172.lt K174.1) lo176)) nin0)) ((Kb174.ext E176).keep K178 (ninS (Nat.ne_of_lt (Nat.lt_of_lt_of_le Kb174.lt lo176)) nin0)) hB135 hB137 hB139 hB141 SC hz SF hfm) hZ (hw _ (List.mem_of_getElem? (i := 37) rfl)) (hw _ (List.mem_of_getElem? (i := 36) rfl)) (by decide) (by decide) hEL CR178.1 all0) c179 rfl rfl (lenOf pd_12 rfl) rfl (by show 2 * 0 + _ ≤ _; exact Nat.le_of_eq rfl) (hb hby at_201) rfl (by decide) (by decide)
    have N180 := Fr.app N178 N180'
    have CR180 := CR178.trans R180
    have c180 : Steps p.tables e below S0 (T180.setTop (mkF m 204 #[.val (.int p0), .val (.int p1), .val (.int (3 : Int32)), .val (.int x135), .val (.int x137), .val (.int x139), .val (.int x141), .val (.ref b143), .val (.ref b145), .val (.ref b172), .val (.ref b176), .unset] [(.ref x180)])) := c180'
    have c181 : Steps p.tables e below S0 (T180.setTop (mkF m 210 #[.val (.int p0), .val (.int p1), .val (.int (3 : Int32)), .val (.int x135), .val (.int x137), .val (.int x139), .val (.int x141), .val (.ref b143), .val (.ref b145), .val (.ref b172), .val (.ref b176), .val (.ref x180)] [(.ref b176), (.ref x180)])) := c180.trans (by
      refine XS.astore X180.here hx rfl (hb hby at_204) rfl rfl (l' := #[.val (.int p0), .val (.int p1), .val (.int (3 : Int32)), .val (.int x135), .val (.int x137), .val (.int x139), .val (.int x141), .val (.ref b143), .val (.ref b145), .val (.ref b172), .val (.ref b176), .val (.ref x180)]) rfl ?_
      refine XS.aload X180.here hx rfl (hb hby at_206) rfl rfl ?_
      refine XS.aload X180.here hx rfl (hb hby at_208) rfl rfl ?_
      exact Steps.refl _)
    obtain ⟨v182, T182, L182, X182, ⟨hv182, rfl, e182⟩, c182'⟩ := own_virt X180 hx hml hZ180 hown180 (hw _ (List.mem_of_getElem? (i := 74) rfl)) (hw _ (List.mem_of_getElem? (i := 75) rfl)) (hw _ (List.mem_of_getElem? (i := 77) rfl)) (hw _ (List.mem_of_getElem? (i := 76) rfl)) (hw _ (List.mem_of_getElem? (i := 77) rfl)) (by decide) (Q := fun v h' L => ((v = some (.int 1) ∧ ([x135, x137, x139] : List Int32) = [x135, x137, x139]) ∨ (v = some (.int 0) ∧ ¬ ([x135, x137, x139] : List Int32) = [x135, x137, x139])) ∧ L = [] ∧ h' = T180.heap) (kc := 0) (ks := 0) (h := T180.heap) (W := 0) (b := x180) (argsL := [(.ref b176)]) (rest := []) (StrChars.Road.eqW (s := (s.setVm T180.vm)) (R := room_1) (W := 0) hZ180 (own_we hw) (kI := 4) (hw _ (List.mem_of_getElem? (i := 3) rfl)) (cs := [x135, x137, x139]) E180 V180 Cd180 Kb180 (StrChars.Road.codOf (n := ([x135, x137, x139] : List Int32).length) rfl (fun c hc => ((own_cons hB135 (own_cons hB137 (own_cons hB139 own_nil))) c hc).rng.2)) (fun c hc => ((own_cons hB135 (own_cons hB137 (own_cons hB139 own_nil))) c hc).rng2) (Nat.le_of_ble_eq_true rfl) (ds := [x135, x137, x139]) (E178.keep K180) (V178.keep K180 nin0) (Cd178.keep K180 nin0) (Kb178.keep K180 nin0) (StrChars.Road.codOf (n := ([x135, x137, x139] : List Int32).length) rfl (fun c hc => ((own_cons hB135 (own_cons hB137 (own_cons hB139 own_nil))) c hc).rng.2)) (fun c hc => ((own_cons hB135 (own_cons hB137 (own_cons hB139 own_nil))) c hc).rng2) (Nat.le_of_ble_eq_true rfl) (SC.ext ((((((((((((((((((((O0.ext E143).ext E145).wr W147 ge143).wr W149 ge143).wr W151 ge143).wr W153 ge143).wr W155 ge145).wr W157 ge143).wr W159 ge145).wr W161 ge143).wr W163 ge145).wr W165 ge143).wr W167 ge143).wr W169 ge143).wr W171 ge143).ext E172).keep K174 (allS ge172 all0)).ext E176).keep K178 (allS ge176 all0)).keep K180 all0).2) hz (by decide) (by decide)) E180 c181 rfl rfl (lenOf pd_13 rfl) rfl (by show 2 * 0 + _ ≤ _; exact Nat.le_of_eq rfl) (hb hby at_210) rfl (by decide) (by decide)
    have N182 := Fr.app N180 (Fr.nil _)
    rcases hv182 with ⟨rfl, hq182⟩ | ⟨rfl, hq182⟩
    · skip
      have c182 : Steps p.tables e below S0 (T182.setTop (mkF m 213 #[.val (.int p0), .val (.int p1), .val (.int (3 : Int32)), .val (.int x135), .val (.int x137), .val (.int x139), .val (.int x141), .val (.ref b143), .val (.ref b145), .val (.ref b172), .val (.ref b176), .val (.ref x180)] [(.int (1 : Int32))])) := c182'
      refine ⟨T182, T180.vm, _, (some (.int (1 : Int32))), _, _, _, X182, by decide, by decide, (fun q => by cases q), N182, hS180, by rw [e182]; exact (Nat.le_refl _), hZ180, by rw [e182]; exact CR180, ?_, fun fs hr => ?_⟩
      · skip
        exact rfl
      · exact c182.trans (retN X182 hx (t := .boolean) hret (by simp) (hb hby at_213) hr)
    · skip
      have c182 : Steps p.tables e below S0 (T182.setTop (mkF m 213 #[.val (.int p0), .val (.int p1), .val (.int (3 : Int32)), .val (.int x135), .val (.int x137), .val (.int x139), .val (.int x141), .val (.ref b143), .val (.ref b145), .val (.ref b172), .val (.ref b176), .val (.ref x180)] [(.int (0 : Int32))])) := c182'
      exact absurd rfl hq182
  · skip
    have c184 : Steps p.tables e below S0 (s₁.setTop (mkF m 6 #[.val (.int p0), .val (.int p1), .unset, .unset, .unset, .unset, .unset, .unset, .unset, .unset, .unset, .unset] [(.int (4 : Int32))])) := by rw [← hn]; exact c3
    have c185 : Steps p.tables e below S0 (s₁.setTop (mkF m 13 #[.val (.int p0), .val (.int p1), .val (.int (4 : Int32)), .unset, .unset, .unset, .unset, .unset, .unset, .unset, .unset, .unset] [(.int ((p1 &&& (255 : Int32)).toUInt32.toUInt16.toUInt32.toInt32))])) := c184.trans (by
      refine XS.istoreN X0.here hx rfl (hb hby at_6) rfl (l' := #[.val (.int p0), .val (.int p1), .val (.int (4 : Int32)), .unset, .unset, .unset, .unset, .unset, .unset, .unset, .unset, .unset]) rfl ?_
      refine XS.iloadN X0.here hx rfl (hb hby at_7) rfl ?_
      refine XS.sipush X0.here hx rfl (hb hby at_8) ?_
      refine XS.iand X0.here hx rfl (hb hby at_11) rfl ?_
      refine XS.i2c X0.here hx rfl (hb hby at_12) rfl ?_
      exact Steps.refl _)
    obtain ⟨x186, hB186, eq186⟩ := own_bI p1
    have c186 : Steps p.tables e below S0 (s₁.setTop (mkF m 13 #[.val (.int p0), .val (.int p1), .val (.int (4 : Int32)), .unset, .unset, .unset, .unset, .unset, .unset, .unset, .unset, .unset] [(.int x186)])) := by rw [← eq186]; exact c185
    have c187 : Steps p.tables e below S0 (s₁.setTop (mkF m 23 #[.val (.int p0), .val (.int p1), .val (.int (4 : Int32)), .val (.int x186), .unset, .unset, .unset, .unset, .unset, .unset, .unset, .unset] [(.int ((((p1.toUInt32 >>> ((8 : Int32) &&& 31).toUInt32).toInt32) &&& (255 : Int32)).toUInt32.toUInt16.toUInt32.toInt32))])) := c186.trans (by
      refine XS.istoreN X0.here hx rfl (hb hby at_13) rfl (l' := #[.val (.int p0), .val (.int p1), .val (.int (4 : Int32)), .val (.int x186), .unset, .unset, .unset, .unset, .unset, .unset, .unset, .unset]) rfl ?_
      refine XS.iloadN X0.here hx rfl (hb hby at_14) rfl ?_
      refine XS.bipush X0.here hx rfl (hb hby at_15) ?_
      refine XS.iushr X0.here hx rfl (hb hby at_17) rfl ?_
      refine XS.sipush X0.here hx rfl (hb hby at_18) ?_
      refine XS.iand X0.here hx rfl (hb hby at_21) rfl ?_
      refine XS.i2c X0.here hx rfl (hb hby at_22) rfl ?_
      exact Steps.refl _)
    obtain ⟨x188, hB188, eq188⟩ := own_bI ((p1.toUInt32 >>> ((8 : Int32) &&& 31).toUInt32).toInt32)
    have c188 : Steps p.tables e below S0 (s₁.setTop (mkF m 23 #[.val (.int p0), .val (.int p1), .val (.int (4 : Int32)), .val (.int x186), .unset, .unset, .unset, .unset, .unset, .unset, .unset, .unset] [(.int x188)])) := by rw [← eq188]; exact c187
    have c189 : Steps p.tables e below S0 (s₁.setTop (mkF m 34 #[.val (.int p0), .val (.int p1), .val (.int (4 : Int32)), .val (.int x186), .val (.int x188), .unset, .unset, .unset, .unset, .unset, .unset, .unset] [(.int ((((p1.toUInt32 >>> ((16 : Int32) &&& 31).toUInt32).toInt32) &&& (255 : Int32)).toUInt32.toUInt16.toUInt32.toInt32))])) := c188.trans (by
      refine XS.istore X0.here hx rfl (hb hby at_23) rfl (l' := #[.val (.int p0), .val (.int p1), .val (.int (4 : Int32)), .val (.int x186), .val (.int x188), .unset, .unset, .unset, .unset, .unset, .unset, .unset]) rfl ?_
      refine XS.iloadN X0.here hx rfl (hb hby at_25) rfl ?_
      refine XS.bipush X0.here hx rfl (hb hby at_26) ?_
      refine XS.iushr X0.here hx rfl (hb hby at_28) rfl ?_
      refine XS.sipush X0.here hx rfl (hb hby at_29) ?_
      refine XS.iand X0.here hx rfl (hb hby at_32) rfl ?_
      refine XS.i2c X0.here hx rfl (hb hby at_33) rfl ?_
      exact Steps.refl _)
    obtain ⟨x190, hB190, eq190⟩ := own_bI ((p1.toUInt32 >>> ((16 : Int32) &&& 31).toUInt32).toInt32)
    have c190 : Steps p.tables e below S0 (s₁.setTop (mkF m 34 #[.val (.int p0), .val (.int p1), .val (.int (4 : Int32)), .val (.int x186), .val (.int x188), .unset, .unset, .unset, .unset, .unset, .unset, .unset] [(.int x190)])) := by rw [← eq190]; exact c189
    have c191 : Steps p.tables e below S0 (s₁.setTop (mkF m 45 #[.val (.int p0), .val (.int p1), .val (.int (4 : Int32)), .val (.int x186), .val (.int x188), .val (.int x190), .unset, .unset, .unset, .unset, .unset, .unset] [(.int ((((p1.toUInt32 >>> ((24 : Int32) &&& 31).toUInt32).toInt32) &&& (255 : Int32)).toUInt32.toUInt16.toUInt32.toInt32))])) := c190.trans (by
      refine XS.istore X0.here hx rfl (hb hby at_34) rfl (l' := #[.val (.int p0), .val (.int p1), .val (.int (4 : Int32)), .val (.int x186), .val (.int x188), .val (.int x190), .unset, .unset, .unset, .unset, .unset, .unset]) rfl ?_
      refine XS.iloadN X0.here hx rfl (hb hby at_36) rfl ?_
      refine XS.bipush X0.here hx rfl (hb hby at_37) ?_
      refine XS.iushr X0.here hx rfl (hb hby at_39) rfl ?_
      refine XS.sipush X0.here hx rfl (hb hby at_40) ?_
      refine XS.iand X0.here hx rfl (hb hby at_43) rfl ?_
      refine XS.i2c X0.here hx rfl (hb hby at_44) rfl ?_
      exact Steps.refl _)
    obtain ⟨x192, hB192, eq192⟩ := own_bI ((p1.toUInt32 >>> ((24 : Int32) &&& 31).toUInt32).toInt32)
    have c192 : Steps p.tables e below S0 (s₁.setTop (mkF m 45 #[.val (.int p0), .val (.int p1), .val (.int (4 : Int32)), .val (.int x186), .val (.int x188), .val (.int x190), .unset, .unset, .unset, .unset, .unset, .unset] [(.int x192)])) := by rw [← eq192]; exact c191
    have c193 : Steps p.tables e below S0 (s₁.setTop (mkF m 51 #[.val (.int p0), .val (.int p1), .val (.int (4 : Int32)), .val (.int x186), .val (.int x188), .val (.int x190), .val (.int x192), .unset, .unset, .unset, .unset, .unset] [(.int (11 : Int32))])) := c192.trans (by
      refine XS.istore X0.here hx rfl (hb hby at_45) rfl (l' := #[.val (.int p0), .val (.int p1), .val (.int (4 : Int32)), .val (.int x186), .val (.int x188), .val (.int x190), .val (.int x192), .unset, .unset, .unset, .unset, .unset]) rfl ?_
      refine XS.bipush X0.here hx rfl (hb hby at_47) ?_
      refine XS.iloadN X0.here hx rfl (hb hby at_49) rfl ?_
      refine XS.iadd X0.here hx rfl (hb hby at_50) rfl ?_
      exact Steps.refl _)
    obtain ⟨T194, h194, k194, X194, e194, E194, A194, st194⟩ := newP X0 hx hZ (hw _ (List.mem_of_getElem? (i := 1) rfl)) e0 (g := (mkF m 51 #[.val (.int p0), .val (.int p1), .val (.int (4 : Int32)), .val (.int x186), .val (.int x188), .val (.int x190), .val (.int x192), .unset, .unset, .unset, .unset, .unset] [(.int (11 : Int32))])) rfl (hb hby at_51) rfl (by decide) (cap := 11) (by decide) (by decide) (by decide) (by decide)
    obtain ⟨b194, g194⟩ : ∃ z, z = h0.size := ⟨_, rfl⟩
    rw [← g194] at A194 st194
    have lo194 : h0.size ≤ b194 := Nat.le_of_eq g194.symm
    have ge194 : Z.heap.size ≤ b194 := Nat.le_trans O0.2.1 lo194
    have R194 := CHr.ext (EL := EL) E194 CR0.1
    have sf194 := Safe.ext E194 CR0.1 (Safe.new lo194)
    have CR194 := CR0.trans R194
    have hk194 := Nat.le_trans hk0 R194.2.1
    have V194 := Arv.new A194 (by decide)
    have V194a : Arv Z h194 b194 k194 .char (11 : Int32) [(.int (0 : Int32)), (.int (0 : Int32)), (.int (0 : Int32)), (.int (0 : Int32)), (.int (0 : Int32)), (.int (0 : Int32)), (.int (0 : Int32)), (.int (0 : Int32)), (.int (0 : Int32)), (.int (0 : Int32)), (.int (0 : Int32))] (.int (0 : Int32)) := V194.pad (pad_rep [] (.int (0 : Int32)) 11)
    have c194 : Steps p.tables e below S0 (T194.setTop (mkF m 53 #[.val (.int p0), .val (.int p1), .val (.int (4 : Int32)), .val (.int x186), .val (.int x188), .val (.int x190), .val (.int x192), .unset, .unset, .unset, .unset, .unset] [(.ref b194)])) := c193.trans (st194 _ (Steps.refl _))
    have c195 : Steps p.tables e below S0 (T194.setTop (mkF m 56 #[.val (.int p0), .val (.int p1), .val (.int (4 : Int32)), .val (.int x186), .val (.int x188), .val (.int x190), .val (.int x192), .val (.ref b194), .unset, .unset, .unset, .unset] [(.int (4 : Int32))])) := c194.trans (by
      refine XS.astore X194.here hx rfl (hb hby at_53) rfl rfl (l' := #[.val (.int p0), .val (.int p1), .val (.int (4 : Int32)), .val (.int x186), .val (.int x188), .val (.int x190), .val (.int x192), .val (.ref b194), .unset, .unset, .unset, .unset]) rfl ?_
      refine XS.iloadN X194.here hx rfl (hb hby at_55) rfl ?_
      exact Steps.refl _)
    obtain ⟨T196, h196, k196, X196, e196, E196, A196, st196⟩ := newP X194 hx hZ (hw _ (List.mem_of_getElem? (i := 1) rfl)) e194 (g := (mkF m 56 #[.val (.int p0), .val (.int p1), .val (.int (4 : Int32)), .val (.int x186), .val (.int x188), .val (.int x190), .val (.int x192), .val (.ref b194), .unset, .unset, .unset, .unset] [(.int (4 : Int32))])) rfl (hb hby at_56) rfl (by decide) (cap := 4) (by decide) (by decide) (by decide) (by decide)
    obtain ⟨b196, g196⟩ : ∃ z, z = h194.size := ⟨_, rfl⟩
    rw [← g196] at A196 st196
    have lo196 : h194.size ≤ b196 := Nat.le_of_eq g196.symm
    have ge196 : Z.heap.size ≤ b196 := Nat.le_trans (O0.ext E194).2.1 lo196
    have R196 := CHr.ext (EL := EL) E196 CR194.1
    have sf196 := Safe.ext E196 CR194.1 (Safe.new lo196)
    have CR196 := CR194.trans R196
    have hk196 := Nat.le_trans hk194 R196.2.1
    have V196 := Arv.new A196 (by decide)
    have V196a : Arv Z h196 b196 k196 .char (4 : Int32) [(.int (0 : Int32)), (.int (0 : Int32)), (.int (0 : Int32)), (.int (0 : Int32))] (.int (0 : Int32)) := V196.pad (pad_rep [] (.int (0 : Int32)) 4)
    have c196 : Steps p.tables e below S0 (T196.setTop (mkF m 58 #[.val (.int p0), .val (.int p1), .val (.int (4 : Int32)), .val (.int x186), .val (.int x188), .val (.int x190), .val (.int x192), .val (.ref b194), .unset, .unset, .unset, .unset] [(.ref b196)])) := c195.trans (st196 _ (Steps.refl _))
    have c197 : Steps p.tables e below S0 (T196.setTop (mkF m 65 #[.val (.int p0), .val (.int p1), .val (.int (4 : Int32)), .val (.int x186), .val (.int x188), .val (.int x190), .val (.int x192), .val (.ref b194), .val (.ref b196), .unset, .unset, .unset] [(.int (82 : Int32)), (.int (0 : Int32)), (.ref b194)])) := c196.trans (by
      refine XS.astore X196.here hx rfl (hb hby at_58) rfl rfl (l' := #[.val (.int p0), .val (.int p1), .val (.int (4 : Int32)), .val (.int x186), .val (.int x188), .val (.int x190), .val (.int x192), .val (.ref b194), .val (.ref b196), .unset, .unset, .unset]) rfl ?_
      refine XS.aload X196.here hx rfl (hb hby at_60) rfl rfl ?_
      refine XS.iconst X196.here hx rfl (hb hby at_62) ?_
      refine XS.bipush X196.here hx rfl (hb hby at_63) ?_
      exact Steps.refl _)
    obtain ⟨cl198, Ar198, q198, S198, M198, H198, G198⟩ := id (V194a.ext E196)
    have hin198 : ¬ ((0 : Int32) < 0 ∨ cl198.slots.size ≤ ((0 : Int32)).toNatClampNeg) := inb_of S198 ⟨by decide, by decide⟩
    obtain ⟨T198, h198, X198, e198, W198, st198⟩ := stC X196 hx hZ e196 Ar198 (j := (0 : Int32)) hin198 (g := (mkF m 65 #[.val (.int p0), .val (.int p1), .val (.int (4 : Int32)), .val (.int x186), .val (.int x188), .val (.int x190), .val (.int x192), .val (.ref b194), .val (.ref b196), .unset, .unset, .unset] [(.int (82 : Int32)), (.int (0 : Int32)), (.ref b194)])) rfl rfl (hb hby at_65)
    have V198 := Arv.set Ar198 q198 S198 M198 H198 G198 (fits_nar_char _) W198 0 rfl (Nat.le_of_ble_eq_true rfl)
    have N198 := Fr.snoc X198 N0 ge194
    have R198 := CHr.wr W198 (R196.safe V194.lt sf194) CR196.1
    have CR198 := CR196.trans R198
    have hk198 := Nat.le_trans hk196 R198.2.1
    have V198a : Arv Z h198 b194 k194 .char (11 : Int32) [(.int (82 : Int32)), (.int (0 : Int32)), (.int (0 : Int32)), (.int (0 : Int32)), (.int (0 : Int32)), (.int (0 : Int32)), (.int (0 : Int32)), (.int (0 : Int32)), (.int (0 : Int32)), (.int (0 : Int32)), (.int (0 : Int32))] (.int (0 : Int32)) := V198
    have c198 : Steps p.tables e below S0 (T198.setTop (mkF m 66 #[.val (.int p0), .val (.int p1), .val (.int (4 : Int32)), .val (.int x186), .val (.int x188), .val (.int x190), .val (.int x192), .val (.ref b194), .val (.ref b196), .unset, .unset, .unset] [])) := c197.trans (st198 _ (Steps.refl _))
    have c199 : Steps p.tables e below S0 (T198.setTop (mkF m 71 #[.val (.int p0), .val (.int p1), .val (.int (4 : Int32)), .val (.int x186), .val (.int x188), .val (.int x190), .val (.int x192), .val (.ref b194), .val (.ref b196), .unset, .unset, .unset] [(.int (95 : Int32)), (.int (1 : Int32)), (.ref b194)])) := c198.trans (by
      refine XS.aload X198.here hx rfl (hb hby at_66) rfl rfl ?_
      refine XS.iconst X198.here hx rfl (hb hby at_68) ?_
      refine XS.bipush X198.here hx rfl (hb hby at_69) ?_
      exact Steps.refl _)
    obtain ⟨cl200, Ar200, q200, S200, M200, H200, G200⟩ := id V198a
    have hin200 : ¬ ((1 : Int32) < 0 ∨ cl200.slots.size ≤ ((1 : Int32)).toNatClampNeg) := inb_of S200 ⟨by decide, by decide⟩
    obtain ⟨T200, h200, X200, e200, W200, st200⟩ := stC X198 hx hZ e198 Ar200 (j := (1 : Int32)) hin200 (g := (mkF m 71 #[.val (.int p0), .val (.int p1), .val (.int (4 : Int32)), .val (.int x186), .val (.int x188), .val (.int x190), .val (.int x192), .val (.ref b194), .val (.ref b196), .unset, .unset, .unset] [(.int (95 : Int32)), (.int (1 : Int32)), (.ref b194)])) rfl rfl (hb hby at_71)
    have V200 := Arv.set Ar200 q200 S200 M200 H200 G200 (fits_nar_char _) W200 1 rfl (Nat.le_of_ble_eq_true rfl)
    have N200 := Fr.snoc X200 N198 ge194
    have R200 := CHr.wr W200 ((R196.trans R198).safe V194.lt sf194) CR198.1
    have CR200 := CR198.trans R200
    have hk200 := Nat.le_trans hk198 R200.2.1
    have V200a : Arv Z h200 b194 k194 .char (11 : Int32) [(.int (82 : Int32)), (.int (95 : Int32)), (.int (0 : Int32)), (.int (0 : Int32)), (.int (0 : Int32)), (.int (0 : Int32)), (.int (0 : Int32)), (.int (0 : Int32)), (.int (0 : Int32)), (.int (0 : Int32)), (.int (0 : Int32))] (.int (0 : Int32)) := V200
    have c200 : Steps p.tables e below S0 (T200.setTop (mkF m 72 #[.val (.int p0), .val (.int p1), .val (.int (4 : Int32)), .val (.int x186), .val (.int x188), .val (.int x190), .val (.int x192), .val (.ref b194), .val (.ref b196), .unset, .unset, .unset] [])) := c199.trans (st200 _ (Steps.refl _))
    have c201 : Steps p.tables e below S0 (T200.setTop (mkF m 77 #[.val (.int p0), .val (.int p1), .val (.int (4 : Int32)), .val (.int x186), .val (.int x188), .val (.int x190), .val (.int x192), .val (.ref b194), .val (.ref b196), .unset, .unset, .unset] [(.int (95 : Int32)), (.int (2 : Int32)), (.ref b194)])) := c200.trans (by
      refine XS.aload X200.here hx rfl (hb hby at_72) rfl rfl ?_
      refine XS.iconst X200.here hx rfl (hb hby at_74) ?_
      refine XS.bipush X200.here hx rfl (hb hby at_75) ?_
      exact Steps.refl _)
    obtain ⟨cl202, Ar202, q202, S202, M202, H202, G202⟩ := id V200a
    have hin202 : ¬ ((2 : Int32) < 0 ∨ cl202.slots.size ≤ ((2 : Int32)).toNatClampNeg) := inb_of S202 ⟨by decide, by decide⟩
    obtain ⟨T202, h202, X202, e202, W202, st202⟩ := stC X200 hx hZ e200 Ar202 (j := (2 : Int32)) hin202 (g := (mkF m 77 #[.val (.int p0), .val (.int p1), .val (.int (4 : Int32)), .val (.int x186), .val (.int x188), .val (.int x190), .val (.int x192), .val (.ref b194), .val (.ref b196), .unset, .unset, .unset] [(.int (95 : Int32)), (.int (2 : Int32)), (.ref b194)])) rfl rfl (hb hby at_77)
    have V202 := Arv.set Ar202 q202 S202 M202 H202 G202 (fits_nar_char _) W202 2 rfl (Nat.le_of_ble_eq_true rfl)
    have N202 := Fr.snoc X202 N200 ge194
    have R202 := CHr.wr W202 (((R196.trans R198).trans R200).safe V194.lt sf194) CR200.1
    have CR202 := CR200.trans R202
    have hk202 := Nat.le_trans hk200 R202.2.1
    have V202a : Arv Z h202 b194 k194 .char (11 : Int32) [(.int (82 : Int32)), (.int (95 : Int32)), (.int (95 : Int32)), (.int (0 : Int32)), (.int (0 : Int32)), (.int (0 : Int32)), (.int (0 : Int32)), (.int (0 : Int32)), (.int (0 : Int32)), (.int (0 : Int32)), (.int (0 : Int32))] (.int (0 : Int32)) := V202
    have c202 : Steps p.tables e below S0 (T202.setTop (mkF m 78 #[.val (.int p0), .val (.int p1), .val (.int (4 : Int32)), .val (.int x186), .val (.int x188), .val (.int x190), .val (.int x192), .val (.ref b194), .val (.ref b196), .unset, .unset, .unset] [])) := c201.trans (st202 _ (Steps.refl _))
    have c203 : Steps p.tables e below S0 (T202.setTop (mkF m 86 #[.val (.int p0), .val (.int p1), .val (.int (4 : Int32)), .val (.int x186), .val (.int x188), .val (.int x190), .val (.int x192), .val (.ref b194), .val (.ref b196), .unset, .unset, .unset] [(.int x186), (.int (3 : Int32)), (.ref b194)])) := c202.trans (by
      refine XS.iloadN X202.here hx rfl (hb hby at_78) rfl ?_
      refine XS.ifNo X202.here hx rfl (hb hby at_79) rfl ((if0 _ _).trans (tlt (by decide : (0 : Int32) < (4 : Int32))).2.2.2) ?_
      refine XS.aload X202.here hx rfl (hb hby at_82) rfl rfl ?_
      refine XS.iconst X202.here hx rfl (hb hby at_84) ?_
      refine XS.iloadN X202.here hx rfl (hb hby at_85) rfl ?_
      exact Steps.refl _)
    obtain ⟨cl204, Ar204, q204, S204, M204, H204, G204⟩ := id V202a
    have hin204 : ¬ ((3 : Int32) < 0 ∨ cl204.slots.size ≤ ((3 : Int32)).toNatClampNeg) := inb_of S204 ⟨by decide, by decide⟩
    obtain ⟨T204, h204, X204, e204, W204, st204⟩ := stC X202 hx hZ e202 Ar204 (j := (3 : Int32)) hin204 (g := (mkF m 86 #[.val (.int p0), .val (.int p1), .val (.int (4 : Int32)), .val (.int x186), .val (.int x188), .val (.int x190), .val (.int x192), .val (.ref b194), .val (.ref b196), .unset, .unset, .unset] [(.int x186), (.int (3 : Int32)), (.ref b194)])) rfl rfl (hb hby at_86)
    have V204 := Arv.set Ar204 q204 S204 M204 H204 G204 (fits_nar_char _) W204 3 rfl (Nat.le_of_ble_eq_true rfl)
    have N204 := Fr.snoc X204 N202 ge194
    have R204 := CHr.wr W204 ((((R196.trans R198).trans R200).trans R202).safe V194.lt sf194) CR202.1
    have CR204 := CR202.trans R204
    have hk204 := Nat.le_trans hk202 R204.2.1
    rw [hB186.nar] at V204
    have V204a : Arv Z h204 b194 k194 .char (11 : Int32) [(.int (82 : Int32)), (.int (95 : Int32)), (.int (95 : Int32)), (.int x186), (.int (0 : Int32)), (.int (0 : Int32)), (.int (0 : Int32)), (.int (0 : Int32)), (.int (0 : Int32)), (.int (0 : Int32)), (.int (0 : Int32))] (.int (0 : Int32)) := V204
    have c204 : Steps p.tables e below S0 (T204.setTop (mkF m 87 #[.val (.int p0), .val (.int p1), .val (.int (4 : Int32)), .val (.int x186), .val (.int x188), .val (.int x190), .val (.int x192), .val (.ref b194), .val (.ref b196), .unset, .unset, .unset] [])) := c203.trans (st204 _ (Steps.refl _))
    have c205 : Steps p.tables e below S0 (T204.setTop (mkF m 91 #[.val (.int p0), .val (.int p1), .val (.int (4 : Int32)), .val (.int x186), .val (.int x188), .val (.int x190), .val (.int x192), .val (.ref b194), .val (.ref b196), .unset, .unset, .unset] [(.int x186), (.int (0 : Int32)), (.ref b196)])) := c204.trans (by
      refine XS.aload X204.here hx rfl (hb hby at_87) rfl rfl ?_
      refine XS.iconst X204.here hx rfl (hb hby at_89) ?_
      refine XS.iloadN X204.here hx rfl (hb hby at_90) rfl ?_
      exact Steps.refl _)
    obtain ⟨cl206, Ar206, q206, S206, M206, H206, G206⟩ := id ((((V196a.other W198 (Ne.symm (Nat.ne_of_lt (Nat.lt_of_lt_of_le V194.lt lo196)))).other W200 (Ne.symm (Nat.ne_of_lt (Nat.lt_of_lt_of_le V194.lt lo196)))).other W202 (Ne.symm (Nat.ne_of_lt (Nat.lt_of_lt_of_le V194.lt lo196)))).other W204 (Ne.symm (Nat.ne_of_lt (Nat.lt_of_lt_of_le V194.lt lo196))))
    have hin206 : ¬ ((0 : Int32) < 0 ∨ cl206.slots.size ≤ ((0 : Int32)).toNatClampNeg) := inb_of S206 ⟨by decide, by decide⟩
    obtain ⟨T206, h206, X206, e206, W206, st206⟩ := stC X204 hx hZ e204 Ar206 (j := (0 : Int32)) hin206 (g := (mkF m 91 #[.val (.int p0), .val (.int p1), .val (.int (4 : Int32)), .val (.int x186), .val (.int x188), .val (.int x190), .val (.int x192), .val (.ref b194), .val (.ref b196), .unset, .unset, .unset] [(.int x186), (.int (0 : Int32)), (.ref b196)])) rfl rfl (hb hby at_91)
    have V206 := Arv.set Ar206 q206 S206 M206 H206 G206 (fits_nar_char _) W206 0 rfl (Nat.le_of_ble_eq_true rfl)
    have N206 := Fr.snoc X206 N204 ge196
    have R206 := CHr.wr W206 ((((R198.trans R200).trans R202).trans R204).safe V196.lt sf196) CR204.1
    have CR206 := CR204.trans R206
    have hk206 := Nat.le_trans hk204 R206.2.1
    rw [hB186.nar] at V206
    have V206a : Arv Z h206 b196 k196 .char (4 : Int32) [(.int x186), (.int (0 : Int32)), (.int (0 : Int32)), (.int (0 : Int32))] (.int (0 : Int32)) := V206
    have c206 : Steps p.tables e below S0 (T206.setTop (mkF m 92 #[.val (.int p0), .val (.int p1), .val (.int (4 : Int32)), .val (.int x186), .val (.int x188), .val (.int x190), .val (.int x192), .val (.ref b194), .val (.ref b196), .unset, .unset, .unset] [])) := c205.trans (st206 _ (Steps.refl _))
    have c207 : Steps p.tables e below S0 (T206.setTop (mkF m 102 #[.val (.int p0), .val (.int p1), .val (.int (4 : Int32)), .val (.int x186), .val (.int x188), .val (.int x190), .val (.int x192), .val (.ref b194), .val (.ref b196), .unset, .unset, .unset] [(.int x188), (.int (4 : Int32)), (.ref b194)])) := c206.trans (by
      refine XS.iloadN X206.here hx rfl (hb hby at_92) rfl ?_
      refine XS.iconst X206.here hx rfl (hb hby at_93) ?_
      refine XS.icmpNo X206.here hx rfl (hb hby at_94) rfl (tlt (by decide : (1 : Int32) < (4 : Int32))).2.2.2 ?_
      refine XS.aload X206.here hx rfl (hb hby at_97) rfl rfl ?_
      refine XS.iconst X206.here hx rfl (hb hby at_99) ?_
      refine XS.iload X206.here hx rfl (hb hby at_100) rfl ?_
      exact Steps.refl _)
    obtain ⟨cl208, Ar208, q208, S208, M208, H208, G208⟩ := id (V204a.other W206 (Nat.ne_of_lt (Nat.lt_of_lt_of_le V194.lt lo196)))
    have hin208 : ¬ ((4 : Int32) < 0 ∨ cl208.slots.size ≤ ((4 : Int32)).toNatClampNeg) := inb_of S208 ⟨by decide, by decide⟩
    obtain ⟨T208, h208, X208, e208, W208, st208⟩ := stC X206 hx hZ e206 Ar208 (j := (4 : Int32)) hin208 (g := (mkF m 102 #[.val (.int p0), .val (.int p1), .val (.int (4 : Int32)), .val (.int x186), .val (.int x188), .val (.int x190), .val (.int x192), .val (.ref b194), .val (.ref b196), .unset, .unset, .unset] [(.int x188), (.int (4 : Int32)), (.ref b194)])) rfl rfl (hb hby at_102)
    have V208 := Arv.set Ar208 q208 S208 M208 H208 G208 (fits_nar_char _) W208 4 rfl (Nat.le_of_ble_eq_true rfl)
    have N208 := Fr.snoc X208 N206 ge194
    have R208 := CHr.wr W208 ((((((R196.trans R198).trans R200).trans R202).trans R204).trans R206).safe V194.lt sf194) CR206.1
    have CR208 := CR206.trans R208
    have hk208 := Nat.le_trans hk206 R208.2.1
    rw [hB188.nar] at V208
    have V208a : Arv Z h208 b194 k194 .char (11 : Int32) [(.int (82 : Int32)), (.int (95 : Int32)), (.int (95 : Int32)), (.int x186), (.int x188), (.int (0 : Int32)), (.int (0 : Int32)), (.int (0 : Int32)), (.int (0 : Int32)), (.int (0 : Int32)), (.int (0 : Int32))] (.int (0 : Int32)) := V208
    have c208 : Steps p.tables e below S0 (T208.setTop (mkF m 103 #[.val (.int p0), .val (.int p1), .val (.int (4 : Int32)), .val (.int x186), .val (.int x188), .val (.int x190), .val (.int x192), .val (.ref b194), .val (.ref b196), .unset, .unset, .unset] [])) := c207.trans (st208 _ (Steps.refl _))
    have c209 : Steps p.tables e below S0 (T208.setTop (mkF m 108 #[.val (.int p0), .val (.int p1), .val (.int (4 : Int32)), .val (.int x186), .val (.int x188), .val (.int x190), .val (.int x192), .val (.ref b194), .val (.ref b196), .unset, .unset, .unset] [(.int x188), (.int (1 : Int32)), (.ref b196)])) := c208.trans (by
      refine XS.aload X208.here hx rfl (hb hby at_103) rfl rfl ?_
      refine XS.iconst X208.here hx rfl (hb hby at_105) ?_
      refine XS.iload X208.here hx rfl (hb hby at_106) rfl ?_
      exact Steps.refl _)
    obtain ⟨cl210, Ar210, q210, S210, M210, H210, G210⟩ := id (V206a.other W208 (Ne.symm (Nat.ne_of_lt (Nat.lt_of_lt_of_le V194.lt lo196))))
    have hin210 : ¬ ((1 : Int32) < 0 ∨ cl210.slots.size ≤ ((1 : Int32)).toNatClampNeg) := inb_of S210 ⟨by decide, by decide⟩
    obtain ⟨T210, h210, X210, e210, W210, st210⟩ := stC X208 hx hZ e208 Ar210 (j := (1 : Int32)) hin210 (g := (mkF m 108 #[.val (.int p0), .val (.int p1), .val (.int (4 : Int32)), .val (.int x186), .val (.int x188), .val (.int x190), .val (.int x192), .val (.ref b194), .val (.ref b196), .unset, .unset, .unset] [(.int x188), (.int (1 : Int32)), (.ref b196)])) rfl rfl (hb hby at_108)
    have V210 := Arv.set Ar210 q210 S210 M210 H210 G210 (fits_nar_char _) W210 1 rfl (Nat.le_of_ble_eq_true rfl)
    have N210 := Fr.snoc X210 N208 ge196
    have R210 := CHr.wr W210 ((((((R198.trans R200).trans R202).trans R204).trans R206).trans R208).safe V196.lt sf196) CR208.1
    have CR210 := CR208.trans R210
    have hk210 := Nat.le_trans hk208 R210.2.1
    rw [hB188.nar] at V210
    have V210a : Arv Z h210 b196 k196 .char (4 : Int32) [(.int x186), (.int x188), (.int (0 : Int32)), (.int (0 : Int32))] (.int (0 : Int32)) := V210
    have c210 : Steps p.tables e below S0 (T210.setTop (mkF m 109 #[.val (.int p0), .val (.int p1), .val (.int (4 : Int32)), .val (.int x186), .val (.int x188), .val (.int x190), .val (.int x192), .val (.ref b194), .val (.ref b196), .unset, .unset, .unset] [])) := c209.trans (st210 _ (Steps.refl _))
    have c211 : Steps p.tables e below S0 (T210.setTop (mkF m 119 #[.val (.int p0), .val (.int p1), .val (.int (4 : Int32)), .val (.int x186), .val (.int x188), .val (.int x190), .val (.int x192), .val (.ref b194), .val (.ref b196), .unset, .unset, .unset] [(.int x190), (.int (5 : Int32)), (.ref b194)])) := c210.trans (by
      refine XS.iloadN X210.here hx rfl (hb hby at_109) rfl ?_
      refine XS.iconst X210.here hx rfl (hb hby at_110) ?_
      refine XS.icmpNo X210.here hx rfl (hb hby at_111) rfl (tlt (by decide : (2 : Int32) < (4 : Int32))).2.2.2 ?_
      refine XS.aload X210.here hx rfl (hb hby at_114) rfl rfl ?_
      refine XS.iconst X210.here hx rfl (hb hby at_116) ?_
      refine XS.iload X210.here hx rfl (hb hby at_117) rfl ?_
      exact Steps.refl _)
    obtain ⟨cl212, Ar212, q212, S212, M212, H212, G212⟩ := id (V208a.other W210 (Nat.ne_of_lt (Nat.lt_of_lt_of_le V194.lt lo196)))
    have hin212 : ¬ ((5 : Int32) < 0 ∨ cl212.slots.size ≤ ((5 : Int32)).toNatClampNeg) := inb_of S212 ⟨by decide, by decide⟩
    obtain ⟨T212, h212, X212, e212, W212, st212⟩ := stC X210 hx hZ e210 Ar212 (j := (5 : Int32)) hin212 (g := (mkF m 119 #[.val (.int p0), .val (.int p1), .val (.int (4 : Int32)), .val (.int x186), .val (.int x188), .val (.int x190), .val (.int x192), .val (.ref b194), .val (.ref b196), .unset, .unset, .unset] [(.int x190), (.int (5 : Int32)), (.ref b194)])) rfl rfl (hb hby at_119)
    have V212 := Arv.set Ar212 q212 S212 M212 H212 G212 (fits_nar_char _) W212 5 rfl (Nat.le_of_ble_eq_true rfl)
    have N212 := Fr.snoc X212 N210 ge194
    have R212 := CHr.wr W212 ((((((((R196.trans R198).trans R200).trans R202).trans R204).trans R206).trans R208).trans R210).safe V194.lt sf194) CR210.1
    have CR212 := CR210.trans R212
    have hk212 := Nat.le_trans hk210 R212.2.1
    rw [hB190.nar] at V212
    have V212a : Arv Z h212 b194 k194 .char (11 : Int32) [(.int (82 : Int32)), (.int (95 : Int32)), (.int (95 : Int32)), (.int x186), (.int x188), (.int x190), (.int (0 : Int32)), (.int (0 : Int32)), (.int (0 : Int32)), (.int (0 : Int32)), (.int (0 : Int32))] (.int (0 : Int32)) := V212
    have c212 : Steps p.tables e below S0 (T212.setTop (mkF m 120 #[.val (.int p0), .val (.int p1), .val (.int (4 : Int32)), .val (.int x186), .val (.int x188), .val (.int x190), .val (.int x192), .val (.ref b194), .val (.ref b196), .unset, .unset, .unset] [])) := c211.trans (st212 _ (Steps.refl _))
    have c213 : Steps p.tables e below S0 (T212.setTop (mkF m 125 #[.val (.int p0), .val (.int p1), .val (.int (4 : Int32)), .val (.int x186), .val (.int x188), .val (.int x190), .val (.int x192), .val (.ref b194), .val (.ref b196), .unset, .unset, .unset] [(.int x190), (.int (2 : Int32)), (.ref b196)])) := c212.trans (by
      refine XS.aload X212.here hx rfl (hb hby at_120) rfl rfl ?_
      refine XS.iconst X212.here hx rfl (hb hby at_122) ?_
      refine XS.iload X212.here hx rfl (hb hby at_123) rfl ?_
      exact Steps.refl _)
    obtain ⟨cl214, Ar214, q214, S214, M214, H214, G214⟩ := id (V210a.other W212 (Ne.symm (Nat.ne_of_lt (Nat.lt_of_lt_of_le V194.lt lo196))))
    have hin214 : ¬ ((2 : Int32) < 0 ∨ cl214.slots.size ≤ ((2 : Int32)).toNatClampNeg) := inb_of S214 ⟨by decide, by decide⟩
    obtain ⟨T214, h214, X214, e214, W214, st214⟩ := stC X212 hx hZ e212 Ar214 (j := (2 : Int32)) hin214 (g := (mkF m 125 #[.val (.int p0), .val (.int p1), .val (.int (4 : Int32)), .val (.int x186), .val (.int x188), .val (.int x190), .val (.int x192), .val (.ref b194), .val (.ref b196), .unset, .unset, .unset] [(.int x190), (.int (2 : Int32)), (.ref b196)])) rfl rfl (hb hby at_125)
    have V214 := Arv.set Ar214 q214 S214 M214 H214 G214 (fits_nar_char _) W214 2 rfl (Nat.le_of_ble_eq_true rfl)
    have N214 := Fr.snoc X214 N212 ge196
    have R214 := CHr.wr W214 ((((((((R198.trans R200).trans R202).trans R204).trans R206).trans R208).trans R210).trans R212).safe V196.lt sf196) CR212.1
    have CR214 := CR212.trans R214
    have hk214 := Nat.le_trans hk212 R214.2.1
    rw [hB190.nar] at V214
    have V214a : Arv Z h214 b196 k196 .char (4 : Int32) [(.int x186), (.int x188), (.int x190), (.int (0 : Int32))] (.int (0 : Int32)) := V214
    have c214 : Steps p.tables e below S0 (T214.setTop (mkF m 126 #[.val (.int p0), .val (.int p1), .val (.int (4 : Int32)), .val (.int x186), .val (.int x188), .val (.int x190), .val (.int x192), .val (.ref b194), .val (.ref b196), .unset, .unset, .unset] [])) := c213.trans (st214 _ (Steps.refl _))
    have c215 : Steps p.tables e below S0 (T214.setTop (mkF m 137 #[.val (.int p0), .val (.int p1), .val (.int (4 : Int32)), .val (.int x186), .val (.int x188), .val (.int x190), .val (.int x192), .val (.ref b194), .val (.ref b196), .unset, .unset, .unset] [(.int x192), (.int (6 : Int32)), (.ref b194)])) := c214.trans (by
      refine XS.iloadN X214.here hx rfl (hb hby at_126) rfl ?_
      refine XS.iconst X214.here hx rfl (hb hby at_127) ?_
      refine XS.icmpNo X214.here hx rfl (hb hby at_128) rfl (tlt (by decide : (3 : Int32) < (4 : Int32))).2.2.2 ?_
      refine XS.aload X214.here hx rfl (hb hby at_131) rfl rfl ?_
      refine XS.bipush X214.here hx rfl (hb hby at_133) ?_
      refine XS.iload X214.here hx rfl (hb hby at_135) rfl ?_
      exact Steps.refl _)
    obtain ⟨cl216, Ar216, q216, S216, M216, H216, G216⟩ := id (V212a.other W214 (Nat.ne_of_lt (Nat.lt_of_lt_of_le V194.lt lo196)))
    have hin216 : ¬ ((6 : Int32) < 0 ∨ cl216.slots.size ≤ ((6 : Int32)).toNatClampNeg) := inb_of S216 ⟨by decide, by decide⟩
    obtain ⟨T216, h216, X216, e216, W216, st216⟩ := stC X214 hx hZ e214 Ar216 (j := (6 : Int32)) hin216 (g := (mkF m 137 #[.val (.int p0), .val (.int p1), .val (.int (4 : Int32)), .val (.int x186), .val (.int x188), .val (.int x190), .val (.int x192), .val (.ref b194), .val (.ref b196), .unset, .unset, .unset] [(.int x192), (.int (6 : Int32)), (.ref b194)])) rfl rfl (hb hby at_137)
    have V216 := Arv.set Ar216 q216 S216 M216 H216 G216 (fits_nar_char _) W216 6 rfl (Nat.le_of_ble_eq_true rfl)
    have N216 := Fr.snoc X216 N214 ge194
    have R216 := CHr.wr W216 ((((((((((R196.trans R198).trans R200).trans R202).trans R204).trans R206).trans R208).trans R210).trans R212).trans R214).safe V194.lt sf194) CR214.1
    have CR216 := CR214.trans R216
    have hk216 := Nat.le_trans hk214 R216.2.1
    rw [hB192.nar] at V216
    have V216a : Arv Z h216 b194 k194 .char (11 : Int32) [(.int (82 : Int32)), (.int (95 : Int32)), (.int (95 : Int32)), (.int x186), (.int x188), (.int x190), (.int x192), (.int (0 : Int32)), (.int (0 : Int32)), (.int (0 : Int32)), (.int (0 : Int32))] (.int (0 : Int32)) := V216
    have c216 : Steps p.tables e below S0 (T216.setTop (mkF m 138 #[.val (.int p0), .val (.int p1), .val (.int (4 : Int32)), .val (.int x186), .val (.int x188), .val (.int x190), .val (.int x192), .val (.ref b194), .val (.ref b196), .unset, .unset, .unset] [])) := c215.trans (st216 _ (Steps.refl _))
    have c217 : Steps p.tables e below S0 (T216.setTop (mkF m 143 #[.val (.int p0), .val (.int p1), .val (.int (4 : Int32)), .val (.int x186), .val (.int x188), .val (.int x190), .val (.int x192), .val (.ref b194), .val (.ref b196), .unset, .unset, .unset] [(.int x192), (.int (3 : Int32)), (.ref b196)])) := c216.trans (by
      refine XS.aload X216.here hx rfl (hb hby at_138) rfl rfl ?_
      refine XS.iconst X216.here hx rfl (hb hby at_140) ?_
      refine XS.iload X216.here hx rfl (hb hby at_141) rfl ?_
      exact Steps.refl _)
    obtain ⟨cl218, Ar218, q218, S218, M218, H218, G218⟩ := id (V214a.other W216 (Ne.symm (Nat.ne_of_lt (Nat.lt_of_lt_of_le V194.lt lo196))))
    have hin218 : ¬ ((3 : Int32) < 0 ∨ cl218.slots.size ≤ ((3 : Int32)).toNatClampNeg) := inb_of S218 ⟨by decide, by decide⟩
    obtain ⟨T218, h218, X218, e218, W218, st218⟩ := stC X216 hx hZ e216 Ar218 (j := (3 : Int32)) hin218 (g := (mkF m 143 #[.val (.int p0), .val (.int p1), .val (.int (4 : Int32)), .val (.int x186), .val (.int x188), .val (.int x190), .val (.int x192), .val (.ref b194), .val (.ref b196), .unset, .unset, .unset] [(.int x192), (.int (3 : Int32)), (.ref b196)])) rfl rfl (hb hby at_143)
    have V218 := Arv.set Ar218 q218 S218 M218 H218 G218 (fits_nar_char _) W218 3 rfl (Nat.le_of_ble_eq_true rfl)
    have N218 := Fr.snoc X218 N216 ge196
    have R218 := CHr.wr W218 ((((((((((R198.trans R200).trans R202).trans R204).trans R206).trans R208).trans R210).trans R212).trans R214).trans R216).safe V196.lt sf196) CR216.1
    have CR218 := CR216.trans R218
    have hk218 := Nat.le_trans hk216 R218.2.1
    rw [hB192.nar] at V218
    have V218a : Arv Z h218 b196 k196 .char (4 : Int32) [(.int x186), (.int x188), (.int x190), (.int x192)] (.int (0 : Int32)) := V218
    have c218 : Steps p.tables e below S0 (T218.setTop (mkF m 144 #[.val (.int p0), .val (.int p1), .val (.int (4 : Int32)), .val (.int x186), .val (.int x188), .val (.int x190), .val (.int x192), .val (.ref b194), .val (.ref b196), .unset, .unset, .unset] [])) := c217.trans (st218 _ (Steps.refl _))
    have c219 : Steps p.tables e below S0 (T218.setTop (mkF m 151 #[.val (.int p0), .val (.int p1), .val (.int (4 : Int32)), .val (.int x186), .val (.int x188), .val (.int x190), .val (.int x192), .val (.ref b194), .val (.ref b196), .unset, .unset, .unset] [(.int (46 : Int32)), (.int (7 : Int32)), (.ref b194)])) := c218.trans (by
      refine XS.aload X218.here hx rfl (hb hby at_144) rfl rfl ?_
      refine XS.iconst X218.here hx rfl (hb hby at_146) ?_
      refine XS.iloadN X218.here hx rfl (hb hby at_147) rfl ?_
      refine XS.iadd X218.here hx rfl (hb hby at_148) rfl ?_
      refine XS.bipush X218.here hx rfl (hb hby at_149) ?_
      exact Steps.refl _)
    obtain ⟨cl220, Ar220, q220, S220, M220, H220, G220⟩ := id (V216a.other W218 (Nat.ne_of_lt (Nat.lt_of_lt_of_le V194.lt lo196)))
    have hin220 : ¬ ((7 : Int32) < 0 ∨ cl220.slots.size ≤ ((7 : Int32)).toNatClampNeg) := inb_of S220 ⟨by decide, by decide⟩
    obtain ⟨T220, h220, X220, e220, W220, st220⟩ := stC X218 hx hZ e218 Ar220 (j := (7 : Int32)) hin220 (g := (mkF m 151 #[.val (.int p0), .val (.int p1), .val (.int (4 : Int32)), .val (.int x186), .val (.int x188), .val (.int x190), .val (.int x192), .val (.ref b194), .val (.ref b196), .unset, .unset, .unset] [(.int (46 : Int32)), (.int (7 : Int32)), (.ref b194)])) rfl rfl (hb hby at_151)
    have V220 := Arv.set Ar220 q220 S220 M220 H220 G220 (fits_nar_char _) W220 7 rfl (Nat.le_of_ble_eq_true rfl)
    have N220 := Fr.snoc X220 N218 ge194
    have R220 := CHr.wr W220 ((((((((((((R196.trans R198).trans R200).trans R202).trans R204).trans R206).trans R208).trans R210).trans R212).trans R214).trans R216).trans R218).safe V194.lt sf194) CR218.1
    have CR220 := CR218.trans R220
    have hk220 := Nat.le_trans hk218 R220.2.1
    have V220a : Arv Z h220 b194 k194 .char (11 : Int32) [(.int (82 : Int32)), (.int (95 : Int32)), (.int (95 : Int32)), (.int x186), (.int x188), (.int x190), (.int x192), (.int (46 : Int32)), (.int (0 : Int32)), (.int (0 : Int32)), (.int (0 : Int32))] (.int (0 : Int32)) := V220
    have c220 : Steps p.tables e below S0 (T220.setTop (mkF m 152 #[.val (.int p0), .val (.int p1), .val (.int (4 : Int32)), .val (.int x186), .val (.int x188), .val (.int x190), .val (.int x192), .val (.ref b194), .val (.ref b196), .unset, .unset, .unset] [])) := c219.trans (st220 _ (Steps.refl _))
    have c221 : Steps p.tables e below S0 (T220.setTop (mkF m 159 #[.val (.int p0), .val (.int p1), .val (.int (4 : Int32)), .val (.int x186), .val (.int x188), .val (.int x190), .val (.int x192), .val (.ref b194), .val (.ref b196), .unset, .unset, .unset] [(.int (115 : Int32)), (.int (8 : Int32)), (.ref b194)])) := c220.trans (by
      refine XS.aload X220.here hx rfl (hb hby at_152) rfl rfl ?_
      refine XS.iconst X220.here hx rfl (hb hby at_154) ?_
      refine XS.iloadN X220.here hx rfl (hb hby at_155) rfl ?_
      refine XS.iadd X220.here hx rfl (hb hby at_156) rfl ?_
      refine XS.bipush X220.here hx rfl (hb hby at_157) ?_
      exact Steps.refl _)
    obtain ⟨cl222, Ar222, q222, S222, M222, H222, G222⟩ := id V220a
    have hin222 : ¬ ((8 : Int32) < 0 ∨ cl222.slots.size ≤ ((8 : Int32)).toNatClampNeg) := inb_of S222 ⟨by decide, by decide⟩
    obtain ⟨T222, h222, X222, e222, W222, st222⟩ := stC X220 hx hZ e220 Ar222 (j := (8 : Int32)) hin222 (g := (mkF m 159 #[.val (.int p0), .val (.int p1), .val (.int (4 : Int32)), .val (.int x186), .val (.int x188), .val (.int x190), .val (.int x192), .val (.ref b194), .val (.ref b196), .unset, .unset, .unset] [(.int (115 : Int32)), (.int (8 : Int32)), (.ref b194)])) rfl rfl (hb hby at_159)
    have V222 := Arv.set Ar222 q222 S222 M222 H222 G222 (fits_nar_char _) W222 8 rfl (Nat.le_of_ble_eq_true rfl)
    have N222 := Fr.snoc X222 N220 ge194
    have R222 := CHr.wr W222 (((((((((((((R196.trans R198).trans R200).trans R202).trans R204).trans R206).trans R208).trans R210).trans R212).trans R214).trans R216).trans R218).trans R220).safe V194.lt sf194) CR220.1
    have CR222 := CR220.trans R222
    have hk222 := Nat.le_trans hk220 R222.2.1
    have V222a : Arv Z h222 b194 k194 .char (11 : Int32) [(.int (82 : Int32)), (.int (95 : Int32)), (.int (95 : Int32)), (.int x186), (.int x188), (.int x190), (.int x192), (.int (46 : Int32)), (.int (115 : Int32)), (.int (0 : Int32)), (.int (0 : Int32))] (.int (0 : Int32)) := V222
    have c222 : Steps p.tables e below S0 (T222.setTop (mkF m 160 #[.val (.int p0), .val (.int p1), .val (.int (4 : Int32)), .val (.int x186), .val (.int x188), .val (.int x190), .val (.int x192), .val (.ref b194), .val (.ref b196), .unset, .unset, .unset] [])) := c221.trans (st222 _ (Steps.refl _))
    have c223 : Steps p.tables e below S0 (T222.setTop (mkF m 167 #[.val (.int p0), .val (.int p1), .val (.int (4 : Int32)), .val (.int x186), .val (.int x188), .val (.int x190), .val (.int x192), .val (.ref b194), .val (.ref b196), .unset, .unset, .unset] [(.int (113 : Int32)), (.int (9 : Int32)), (.ref b194)])) := c222.trans (by
      refine XS.aload X222.here hx rfl (hb hby at_160) rfl rfl ?_
      refine XS.iconst X222.here hx rfl (hb hby at_162) ?_
      refine XS.iloadN X222.here hx rfl (hb hby at_163) rfl ?_
      refine XS.iadd X222.here hx rfl (hb hby at_164) rfl ?_
      refine XS.bipush X222.here hx rfl (hb hby at_165) ?_
      exact Steps.refl _)
    obtain ⟨cl224, Ar224, q224, S224, M224, H224, G224⟩ := id V222a
    have hin224 : ¬ ((9 : Int32) < 0 ∨ cl224.slots.size ≤ ((9 : Int32)).toNatClampNeg) := inb_of S224 ⟨by decide, by decide⟩
    obtain ⟨T224, h224, X224, e224, W224, st224⟩ := stC X222 hx hZ e222 Ar224 (j := (9 : Int32)) hin224 (g := (mkF m 167 #[.val (.int p0), .val (.int p1), .val (.int (4 : Int32)), .val (.int x186), .val (.int x188), .val (.int x190), .val (.int x192), .val (.ref b194), .val (.ref b196), .unset, .unset, .unset] [(.int (113 : Int32)), (.int (9 : Int32)), (.ref b194)])) rfl rfl (hb hby at_167)
    have V224 := Arv.set Ar224 q224 S224 M224 H224 G224 (fits_nar_char _) W224 9 rfl (Nat.le_of_ble_eq_true rfl)
    have N224 := Fr.snoc X224 N222 ge194
    have R224 := CHr.wr W224 ((((((((((((((R196.trans R198).trans R200).trans R202).trans R204).trans R206).trans R208).trans R210).trans R212).trans R214).trans R216).trans R218).trans R220).trans R222).safe V194.lt sf194) CR222.1
    have CR224 := CR222.trans R224
    have hk224 := Nat.le_trans hk222 R224.2.1
    have V224a : Arv Z h224 b194 k194 .char (11 : Int32) [(.int (82 : Int32)), (.int (95 : Int32)), (.int (95 : Int32)), (.int x186), (.int x188), (.int x190), (.int x192), (.int (46 : Int32)), (.int (115 : Int32)), (.int (113 : Int32)), (.int (0 : Int32))] (.int (0 : Int32)) := V224
    have c224 : Steps p.tables e below S0 (T224.setTop (mkF m 168 #[.val (.int p0), .val (.int p1), .val (.int (4 : Int32)), .val (.int x186), .val (.int x188), .val (.int x190), .val (.int x192), .val (.ref b194), .val (.ref b196), .unset, .unset, .unset] [])) := c223.trans (st224 _ (Steps.refl _))
    have c225 : Steps p.tables e below S0 (T224.setTop (mkF m 176 #[.val (.int p0), .val (.int p1), .val (.int (4 : Int32)), .val (.int x186), .val (.int x188), .val (.int x190), .val (.int x192), .val (.ref b194), .val (.ref b196), .unset, .unset, .unset] [(.int (108 : Int32)), (.int (10 : Int32)), (.ref b194)])) := c224.trans (by
      refine XS.aload X224.here hx rfl (hb hby at_168) rfl rfl ?_
      refine XS.bipush X224.here hx rfl (hb hby at_170) ?_
      refine XS.iloadN X224.here hx rfl (hb hby at_172) rfl ?_
      refine XS.iadd X224.here hx rfl (hb hby at_173) rfl ?_
      refine XS.bipush X224.here hx rfl (hb hby at_174) ?_
      exact Steps.refl _)
    obtain ⟨cl226, Ar226, q226, S226, M226, H226, G226⟩ := id V224a
    have hin226 : ¬ ((10 : Int32) < 0 ∨ cl226.slots.size ≤ ((10 : Int32)).toNatClampNeg) := inb_of S226 ⟨by decide, by decide⟩
    obtain ⟨T226, h226, X226, e226, W226, st226⟩ := stC X224 hx hZ e224 Ar226 (j := (10 : Int32)) hin226 (g := (mkF m 176 #[.val (.int p0), .val (.int p1), .val (.int (4 : Int32)), .val (.int x186), .val (.int x188), .val (.int x190), .val (.int x192), .val (.ref b194), .val (.ref b196), .unset, .unset, .unset] [(.int (108 : Int32)), (.int (10 : Int32)), (.ref b194)])) rfl rfl (hb hby at_176)
    have V226 := Arv.set Ar226 q226 S226 M226 H226 G226 (fits_nar_char _) W226 10 rfl (Nat.le_of_ble_eq_true rfl)
    have N226 := Fr.snoc X226 N224 ge194
    have R226 := CHr.wr W226 (((((((((((((((R196.trans R198).trans R200).trans R202).trans R204).trans R206).trans R208).trans R210).trans R212).trans R214).trans R216).trans R218).trans R220).trans R222).trans R224).safe V194.lt sf194) CR224.1
    have CR226 := CR224.trans R226
    have hk226 := Nat.le_trans hk224 R226.2.1
    have V226a : Arv Z h226 b194 k194 .char (11 : Int32) [(.int (82 : Int32)), (.int (95 : Int32)), (.int (95 : Int32)), (.int x186), (.int x188), (.int x190), (.int x192), (.int (46 : Int32)), (.int (115 : Int32)), (.int (113 : Int32)), (.int (108 : Int32))] (.int (0 : Int32)) := V226
    have c226 : Steps p.tables e below S0 (T226.setTop (mkF m 177 #[.val (.int p0), .val (.int p1), .val (.int (4 : Int32)), .val (.int x186), .val (.int x188), .val (.int x190), .val (.int x192), .val (.ref b194), .val (.ref b196), .unset, .unset, .unset] [])) := c225.trans (st226 _ (Steps.refl _))
    obtain ⟨T227, h227, X227, e227, E227, A227, D227, -, st227⟩ := newO X226 hx hZ hown (hw _ (List.mem_of_getElem? (i := 2) rfl)) (hw _ (List.mem_of_getElem? (i := 3) rfl)) (hw _ (List.mem_of_getElem? (i := 4) rfl)) e226 (g := (mkF m 177 #[.val (.int p0), .val (.int p1), .val (.int (4 : Int32)), .val (.int x186), .val (.int x188), .val (.int x190), .val (.int x192), .val (.ref b194), .val (.ref b196), .unset, .unset, .unset] [])) rfl (hb hby at_177) (by decide) (by decide)
    obtain ⟨b227, g227⟩ : ∃ z, z = h226.size := ⟨_, rfl⟩
    rw [← g227] at A227 D227 st227
    have lo227 : h226.size ≤ b227 := Nat.le_of_eq g227.symm
    have ge227 : Z.heap.size ≤ b227 := Nat.le_trans (((((((((((((((((O0.ext E194).ext E196).wr W198 ge194).wr W200 ge194).wr W202 ge194).wr W204 ge194).wr W206 ge196).wr W208 ge194).wr W210 ge196).wr W212 ge194).wr W214 ge196).wr W216 ge194).wr W218 ge196).wr W220 ge194).wr W222 ge194).wr W224 ge194).wr W226 ge194).2.1 lo227
    have R227 := CHr.ext (EL := EL) E227 CR226.1
    have sf227 := Safe.ext E227 CR226.1 (Safe.new lo227)
    have CR227 := CR226.trans R227
    have hk227 := Nat.le_trans hk226 R227.2.1
    have F227_coder : Fld Z h227 b227 "java/lang/String" "coder" "B" (.int (0 : Int32)) := D227 (Or.inr (hw _ (List.mem_of_getElem? (i := 28) rfl))) (ty := .byte) (by decide)
    have F227_value : Fld Z h227 b227 "java/lang/String" "value" "[B" .null := D227 (Or.inr (hw _ (List.mem_of_getElem? (i := 30) rfl))) (ty := (.array .byte)) (by decide)
    have c227 : Steps p.tables e below S0 (T227.setTop (mkF m 180 #[.val (.int p0), .val (.int p1), .val (.int (4 : Int32)), .val (.int x186), .val (.int x188), .val (.int x190), .val (.int x192), .val (.ref b194), .val (.ref b196), .unset, .unset, .unset] [(.ref b227)])) := c226.trans (st227 _ (Steps.refl _))
    have c228 : Steps p.tables e below S0 (T227.setTop (mkF m 183 #[.val (.int p0), .val (.int p1), .val (.int (4 : Int32)), .val (.int x186), .val (.int x188), .val (.int x190), .val (.int x192), .val (.ref b194), .val (.ref b196), .unset, .unset, .unset] [(.ref b194), (.ref b227), (.ref b227)])) := c227.trans (by
      refine XS.dup X227.here hx rfl (hb hby at_180) rfl rfl ?_
      refine XS.aload X227.here hx rfl (hb hby at_181) rfl rfl ?_
      exact Steps.refl _)
    obtain ⟨v229, T229, L229, X229, ⟨rfl, N229', K229, E229, Cd229, t229, kb229, gt229, lo229, ne229, V229, Kb229⟩, c229'⟩ := own_spec X227 hx hml hZ hown rfl (hw _ (List.mem_of_getElem? (i := 5) rfl)) (hw _ (List.mem_of_getElem? (i := 6) rfl)) (hw _ (List.mem_of_getElem? (i := 7) rfl)) (by decide) (Q := StrChars.Road.QV Z b227 (11 : Int32) (([(82 : Int32), (95 : Int32), (95 : Int32), x186, x188, x190, x192, (46 : Int32), (115 : Int32), (113 : Int32), (108 : Int32)] : List Int32).map (fun c : Int32 => c.toInt8.toInt32)) h227 Z.heap.size) (kc := 1) (ks := 11) (h := h227) (W := 1) (b := b227) (argsL := [(.ref b194)]) (rest := [(.ref b227)]) (StrChars.Road.backV (s := (s.setVm s.vm)) (R := room_1) (W := 1) hZ (own_wi hw) (kI := 4) (hw _ (List.mem_of_getElem? (i := 3) rfl)) (cs := [(82 : Int32), (95 : Int32), (95 : Int32), x186, x188, x190, x192, (46 : Int32), (115 : Int32), (113 : Int32), (108 : Int32)]) (bs := ([(82 : Int32), (95 : Int32), (95 : Int32), x186, x188, x190, x192, (46 : Int32), (115 : Int32), (113 : Int32), (108 : Int32)] : List Int32).map (fun c : Int32 => c.toInt8.toInt32)) (n := 11) ge227 ((((((((((((((((((O0.ext E194).ext E196).wr W198 ge194).wr W200 ge194).wr W202 ge194).wr W204 ge194).wr W206 ge196).wr W208 ge194).wr W210 ge196).wr W212 ge194).wr W214 ge196).wr W216 ge194).wr W218 ge196).wr W220 ge194).wr W222 ge194).wr W224 ge194).wr W226 ge194).ext E227).2.1 A227 F227_value F227_coder (V226a.ext E227) (SC.ext ((((((((((((((((((O0.ext E194).ext E196).wr W198 ge194).wr W200 ge194).wr W202 ge194).wr W204 ge194).wr W206 ge196).wr W208 ge194).wr W210 ge196).wr W212 ge194).wr W214 ge196).wr W216 ge194).wr W218 ge196).wr W220 ge194).wr W222 ge194).wr W224 ge194).wr W226 ge194).ext E227).2) hz rfl rfl (by decide) (by decide) (fun c hc => ((own_cons (own_Bl 82 (by decide)) (own_cons (own_Bl 95 (by decide)) (own_cons (own_Bl 95 (by decide)) (own_cons hB186 (own_cons hB188 (own_cons hB190 (own_cons hB192 (own_cons (own_Bl 46 (by decide)) (own_cons (own_Bl 115 (by decide)) (own_cons (own_Bl 113 (by decide)) (own_cons (own_Bl 108 (by decide)) own_nil))))))))))) c hc).rng) rfl (by decide) (by decide)) c228 rfl rfl (lenOf pd_10 rfl) rfl (by show 2 * 0 + _ ≤ _; exact Nat.le_of_eq rfl) (hb hby at_183) e227 (by decide) (by decide)
    have N229 := Fr.app N226 N229'
    have R229 := CHr.keep K229 (sfS sf227 sf0) CR227.1
    have CR229 := CR227.trans R229
    have hk229 := Nat.le_trans hk227 R229.2.1
    have c229 : Steps p.tables e below S0 (T229.setTop (mkF m 186 #[.val (.int p0), .val (.int p1), .val (.int (4 : Int32)), .val (.int x186), .val (.int x188), .val (.int x190), .val (.int x192), .val (.ref b194), .val (.ref b196), .unset, .unset, .unset] [(.ref b227)])) := c229'
    have c230 : Steps p.tables e below S0 (T229.setTop (mkF m 188 #[.val (.int p0), .val (.int p1), .val (.int (4 : Int32)), .val (.int x186), .val (.int x188), .val (.int x190), .val (.int x192), .val (.ref b194), .val (.ref b196), .val (.ref b227), .unset, .unset] [])) := c229.trans (by
      refine XS.astore X229.here hx rfl (hb hby at_186) rfl rfl (l' := #[.val (.int p0), .val (.int p1), .val (.int (4 : Int32)), .val (.int x186), .val (.int x188), .val (.int x190), .val (.int x192), .val (.ref b194), .val (.ref b196), .val (.ref b227), .unset, .unset]) rfl ?_
      exact Steps.refl _)
    obtain ⟨T231, h231, X231, e231, E231, A231, D231, -, st231⟩ := newO X229 hx hZ hown (hw _ (List.mem_of_getElem? (i := 2) rfl)) (hw _ (List.mem_of_getElem? (i := 3) rfl)) (hw _ (List.mem_of_getElem? (i := 4) rfl)) rfl (g := (mkF m 188 #[.val (.int p0), .val (.int p1), .val (.int (4 : Int32)), .val (.int x186), .val (.int x188), .val (.int x190), .val (.int x192), .val (.ref b194), .val (.ref b196), .val (.ref b227), .unset, .unset] [])) rfl (hb hby at_188) (by decide) (by decide)
    obtain ⟨b231, g231⟩ : ∃ z, z = T229.heap.size := ⟨_, rfl⟩
    rw [← g231] at A231 D231 st231
    have lo231 : T229.heap.size ≤ b231 := Nat.le_of_eq g231.symm
    have ge231 : Z.heap.size ≤ b231 := Nat.le_trans (((((((((((((((((((O0.ext E194).ext E196).wr W198 ge194).wr W200 ge194).wr W202 ge194).wr W204 ge194).wr W206 ge196).wr W208 ge194).wr W210 ge196).wr W212 ge194).wr W214 ge196).wr W216 ge194).wr W218 ge196).wr W220 ge194).wr W222 ge194).wr W224 ge194).wr W226 ge194).ext E227).keep K229 (allS ge227 all0)).2.1 lo231
    have R231 := CHr.ext (EL := EL) E231 CR229.1
    have sf231 := Safe.ext E231 CR229.1 (Safe.new lo231)
    have CR231 := CR229.trans R231
    have hk231 := Nat.le_trans hk229 R231.2.1
    have F231_coder : Fld Z h231 b231 "java/lang/String" "coder" "B" (.int (0 : Int32)) := D231 (Or.inr (hw _ (List.mem_of_getElem? (i := 28) rfl))) (ty := .byte) (by decide)
    have F231_value : Fld Z h231 b231 "java/lang/String" "value" "[B" .null := D231 (Or.inr (hw _ (List.mem_of_getElem? (i := 30) rfl))) (ty := (.array .byte)) (by decide)
    have c231 : Steps p.tables e below S0 (T231.setTop (mkF m 191 #[.val (.int p0), .val (.int p1), .val (.int (4 : Int32)), .val (.int x186), .val (.int x188), .val (.int x190), .val (.int x192), .val (.ref b194), .val (.ref b196), .val (.ref b227), .unset, .unset] [(.ref b231)])) := c230.trans (st231 _ (Steps.refl _))
    have c232 : Steps p.tables e below S0 (T231.setTop (mkF m 194 #[.val (.int p0), .val (.int p1), .val (.int (4 : Int32)), .val (.int x186), .val (.int x188), .val (.int x190), .val (.int x192), .val (.ref b194), .val (.ref b196), .val (.ref b227), .unset, .unset] [(.ref b196), (.ref b231), (.ref b231)])) := c231.trans (by
      refine XS.dup X231.here hx rfl (hb hby at_191) rfl rfl ?_
      refine XS.aload X231.here hx rfl (hb hby at_192) rfl rfl ?_
      exact Steps.refl _)
    obtain ⟨v233, T233, L233, X233, ⟨rfl, N233', K233, E233, Cd233, t233, kb233, gt233, lo233, ne233, V233, Kb233⟩, c233'⟩ := own_spec X231 hx hml hZ hown rfl (hw _ (List.mem_of_getElem? (i := 5) rfl)) (hw _ (List.mem_of_getElem? (i := 6) rfl)) (hw _ (List.mem_of_getElem? (i := 7) rfl)) (by decide) (Q := StrChars.Road.QV Z b231 (4 : Int32) (([x186, x188, x190, x192] : List Int32).map (fun c : Int32 => c.toInt8.toInt32)) h231 Z.heap.size) (kc := 1) (ks := 4) (h := h231) (W := 1) (b := b231) (argsL := [(.ref b196)]) (rest := [(.ref b231)]) (StrChars.Road.backV (s := (s.setVm s.vm)) (R := room_1) (W := 1) hZ (own_wi hw) (kI := 4) (hw _ (List.mem_of_getElem? (i := 3) rfl)) (cs := [x186, x188, x190, x192]) (bs := ([x186, x188, x190, x192] : List Int32).map (fun c : Int32 => c.toInt8.toInt32)) (n := 4) ge231 ((((((((((((((((((((O0.ext E194).ext E196).wr W198 ge194).wr W200 ge194).wr W202 ge194).wr W204 ge194).wr W206 ge196).wr W208 ge194).wr W210 ge196).wr W212 ge194).wr W214 ge196).wr W216 ge194).wr W218 ge196).wr W220 ge194).wr W222 ge194).wr W224 ge194).wr W226 ge194).ext E227).keep K229 (allS ge227 all0)).ext E231).2.1 A231 F231_value F231_coder (((((((V218a.other W220 (Ne.symm (Nat.ne_of_lt (Nat.lt_of_lt_of_le V194.lt lo196)))).other W222 (Ne.symm (Nat.ne_of_lt (Nat.lt_of_lt_of_le V194.lt lo196)))).other W224 (Ne.symm (Nat.ne_of_lt (Nat.lt_of_lt_of_le V194.lt lo196)))).other W226 (Ne.symm (Nat.ne_of_lt (Nat.lt_of_lt_of_le V194.lt lo196)))).ext E227).keep K229 (ninS (Nat.ne_of_lt (Nat.lt_of_lt_of_le (Nat.lt_of_lt_of_le V196.lt (Nat.le_trans (Nat.le_trans (Nat.le_trans (Nat.le_trans (Nat.le_trans (Nat.le_trans (Nat.le_trans (Nat.le_trans (Nat.le_trans (Nat.le_trans (Nat.le_trans (Nat.le_trans (Nat.le_trans (Nat.le_trans (Keep.of_wr W198).1 (Keep.of_wr W200).1) (Keep.of_wr W202).1) (Keep.of_wr W204).1) (Keep.of_wr W206).1) (Keep.of_wr W208).1) (Keep.of_wr W210).1) (Keep.of_wr W212).1) (Keep.of_wr W214).1) (Keep.of_wr W216).1) (Keep.of_wr W218).1) (Keep.of_wr W220).1) (Keep.of_wr W222).1) (Keep.of_wr W224).1) (Keep.of_wr W226).1)) lo227)) nin0)).ext E231) (SC.ext ((((((((((((((((((((O0.ext E194).ext E196).wr W198 ge194).wr W200 ge194).wr W202 ge194).wr W204 ge194).wr W206 ge196).wr W208 ge194).wr W210 ge196).wr W212 ge194).wr W214 ge196).wr W216 ge194).wr W218 ge196).wr W220 ge194).wr W222 ge194).wr W224 ge194).wr W226 ge194).ext E227).keep K229 (allS ge227 all0)).ext E231).2) hz rfl rfl (by decide) (by decide) (fun c hc => ((own_cons hB186 (own_cons hB188 (own_cons hB190 (own_cons hB192 own_nil)))) c hc).rng) rfl (by decide) (by decide)) c232 rfl rfl (lenOf pd_10 rfl) rfl (by show 2 * 0 + _ ≤ _; exact Nat.le_of_eq rfl) (hb hby at_194) e231 (by decide) (by decide)
    have N233 := Fr.app N229 N233'
    have R233 := CHr.keep K233 (sfS sf231 sf0) CR231.1
    have CR233 := CR231.trans R233
    have hk233 := Nat.le_trans hk231 R233.2.1
    have c233 : Steps p.tables e below S0 (T233.setTop (mkF m 197 #[.val (.int p0), .val (.int p1), .val (.int (4 : Int32)), .val (.int x186), .val (.int x188), .val (.int x190), .val (.int x192), .val (.ref b194), .val (.ref b196), .val (.ref b227), .unset, .unset] [(.ref b231)])) := c233'
    have c234 : Steps p.tables e below S0 (T233.setTop (mkF m 201 #[.val (.int p0), .val (.int p1), .val (.int (4 : Int32)), .val (.int x186), .val (.int x188), .val (.int x190), .val (.int x192), .val (.ref b194), .val (.ref b196), .val (.ref b227), .val (.ref b231), .unset] [(.ref b227)])) := c233.trans (by
      refine XS.astore X233.here hx rfl (hb hby at_197) rfl rfl (l' := #[.val (.int p0), .val (.int p1), .val (.int (4 : Int32)), .val (.int x186), .val (.int x188), .val (.int x190), .val (.int x192), .val (.ref b194), .val (.ref b196), .val (.ref b227), .val (.ref b231), .unset]) rfl ?_
      refine XS.aload X233.here hx rfl (hb hby at_199) rfl rfl ?_
      exact Steps.refl _)
    obtain ⟨v235, T235, L235, X235, hS235, hZ235, hown235, R235, ⟨N235', x235, t235, kb235, rfl, K235, E235, V235, Cd235, Kb235⟩, c235'⟩ := own_wstat X233 hx hml hZ hown hS0 hk233 (hw _ (List.mem_of_getElem? (i := 34) rfl)) (hw _ (List.mem_of_getElem? (i := 35) rfl)) (hw _ (List.mem_of_getElem? (i := 36) rfl)) (hw _ (List.mem_of_getElem? (i := 37) rfl)) (by decide) (kc := 10) (ks := 100) (h := T233.heap) (W := 0) (argsL := [(.ref b227)]) (rest := []) (own_wpay (W := 0) (rmRN4 l Z a0 hw hEL b227 t229 kb229 x186 x188 x190 x192 z fm T233.heap (((((((((((((((((((((O0.ext E194).ext E196).wr W198 ge194).wr W200 ge194).wr W202 ge194).wr W204 ge194).wr W206 ge196).wr W208 ge194).wr W210 ge196).wr W212 ge194).wr W214 ge196).wr W216 ge194).wr W218 ge196).wr W220 ge194).wr W222 ge194).wr W224 ge194).wr W226 ge194).ext E227).keep K229 (allS ge227 all0)).ext E231).keep K233 (allS ge231 all0)) ((E229.ext E231).keep K233) ((V229.ext E231).keep K233 (ninS (Nat.ne_of_lt (Nat.lt_of_lt_of_le (Nat.lt_of_lt_of_le A227.lt K229.1) lo231)) nin0)) ((Cd229.ext E231).keep K233 (ninS (Nat.ne_of_lt (Nat.lt_of_lt_of_le (Nat.lt_of_lt_of_le A227.lt K229.1) lo231)) nin0)) ((Kb229.ext E231).keep K233 (ninS (Nat.ne_of_lt (Nat.lt_of_lt_of_le Kb229.lt lo231)) nin0)) hB186 hB188 hB190 hB192 SC hz SF hfm) hZ (hw _ (List.mem_of_getElem? (i := 37) rfl)) (hw _ (List.mem_of_getElem? (i := 36) rfl)) (by decide) (by decide) hEL CR233.1 all0) c234 rfl rfl (lenOf pd_12 rfl) rfl (by show 2 * 0 + _ ≤ _; exact Nat.le_of_eq rfl) (hb hby at_201) rfl (by decide) (by decide)
    have N235 := Fr.app N233 N235'
    have CR235 := CR233.trans R235
    have c235 : Steps p.tables e below S0 (T235.setTop (mkF m 204 #[.val (.int p0), .val (.int p1), .val (.int (4 : Int32)), .val (.int x186), .val (.int x188), .val (.int x190), .val (.int x192), .val (.ref b194), .val (.ref b196), .val (.ref b227), .val (.ref b231), .unset] [(.ref x235)])) := c235'
    have c236 : Steps p.tables e below S0 (T235.setTop (mkF m 210 #[.val (.int p0), .val (.int p1), .val (.int (4 : Int32)), .val (.int x186), .val (.int x188), .val (.int x190), .val (.int x192), .val (.ref b194), .val (.ref b196), .val (.ref b227), .val (.ref b231), .val (.ref x235)] [(.ref b231), (.ref x235)])) := c235.trans (by
      refine XS.astore X235.here hx rfl (hb hby at_204) rfl rfl (l' := #[.val (.int p0), .val (.int p1), .val (.int (4 : Int32)), .val (.int x186), .val (.int x188), .val (.int x190), .val (.int x192), .val (.ref b194), .val (.ref b196), .val (.ref b227), .val (.ref b231), .val (.ref x235)]) rfl ?_
      refine XS.aload X235.here hx rfl (hb hby at_206) rfl rfl ?_
      refine XS.aload X235.here hx rfl (hb hby at_208) rfl rfl ?_
      exact Steps.refl _)
    obtain ⟨v237, T237, L237, X237, ⟨hv237, rfl, e237⟩, c237'⟩ := own_virt X235 hx hml hZ235 hown235 (hw _ (List.mem_of_getElem? (i := 74) rfl)) (hw _ (List.mem_of_getElem? (i := 75) rfl)) (hw _ (List.mem_of_getElem? (i := 77) rfl)) (hw _ (List.mem_of_getElem? (i := 76) rfl)) (hw _ (List.mem_of_getElem? (i := 77) rfl)) (by decide) (Q := fun v h' L => ((v = some (.int 1) ∧ ([x186, x188, x190, x192] : List Int32) = [x186, x188, x190, x192]) ∨ (v = some (.int 0) ∧ ¬ ([x186, x188, x190, x192] : List Int32) = [x186, x188, x190, x192])) ∧ L = [] ∧ h' = T235.heap) (kc := 0) (ks := 0) (h := T235.heap) (W := 0) (b := x235) (argsL := [(.ref b231)]) (rest := []) (StrChars.Road.eqW (s := (s.setVm T235.vm)) (R := room_1) (W := 0) hZ235 (own_we hw) (kI := 4) (hw _ (List.mem_of_getElem? (i := 3) rfl)) (cs := [x186, x188, x190, x192]) E235 V235 Cd235 Kb235 (StrChars.Road.codOf (n := ([x186, x188, x190, x192] : List Int32).length) rfl (fun c hc => ((own_cons hB186 (own_cons hB188 (own_cons hB190 (own_cons hB192 own_nil)))) c hc).rng.2)) (fun c hc => ((own_cons hB186 (own_cons hB188 (own_cons hB190 (own_cons hB192 own_nil)))) c hc).rng2) (Nat.le_of_ble_eq_true rfl) (ds := [x186, x188, x190, x192]) (E233.keep K235) (V233.keep K235 nin0) (Cd233.keep K235 nin0) (Kb233.keep K235 nin0) (StrChars.Road.codOf (n := ([x186, x188, x190, x192] : List Int32).length) rfl (fun c hc => ((own_cons hB186 (own_cons hB188 (own_cons hB190 (own_cons hB192 own_nil)))) c hc).rng.2)) (fun c hc => ((own_cons hB186 (own_cons hB188 (own_cons hB190 (own_cons hB192 own_nil)))) c hc).rng2) (Nat.le_of_ble_eq_true rfl) (SC.ext ((((((((((((((((((((((O0.ext E194).ext E196).wr W198 ge194).wr W200 ge194).wr W202 ge194).wr W204 ge194).wr W206 ge196).wr W208 ge194).wr W210 ge196).wr W212 ge194).wr W214 ge196).wr W216 ge194).wr W218 ge196).wr W220 ge194).wr W222 ge194).wr W224 ge194).wr W226 ge194).ext E227).keep K229 (allS ge227 all0)).ext E231).keep K233 (allS ge231 all0)).keep K235 all0).2) hz (by decide) (by decide)) E235 c236 rfl rfl (lenOf pd_13 rfl) rfl (by show 2 * 0 + _ ≤ _; exact Nat.le_of_eq rfl) (hb hby at_210) rfl (by decide) (by decide)
    have N237 := Fr.app N235 (Fr.nil _)
    rcases hv237 with ⟨rfl, hq237⟩ | ⟨rfl, hq237⟩
    · skip
      have c237 : Steps p.tables e below S0 (T237.setTop (mkF m 213 #[.val (.int p0), .val (.int p1), .val (.int (4 : Int32)), .val (.int x186), .val (.int x188), .val (.int x190), .val (.int x192), .val (.ref b194), .val (.ref b196), .val (.ref b227), .val (.ref b231), .val (.ref x235)] [(.int (1 : Int32))])) := c237'
      refine ⟨T237, T235.vm, _, (some (.int (1 : Int32))), _, _, _, X237, by decide, by decide, (fun q => by cases q), N237, hS235, by rw [e237]; exact (Nat.le_refl _), hZ235, by rw [e237]; exact CR235, ?_, fun fs hr => ?_⟩
      · skip
        exact rfl
      · exact c237.trans (retN X237 hx (t := .boolean) hret (by simp) (hb hby at_213) hr)
    · skip
      have c237 : Steps p.tables e below S0 (T237.setTop (mkF m 213 #[.val (.int p0), .val (.int p1), .val (.int (4 : Int32)), .val (.int x186), .val (.int x188), .val (.int x190), .val (.int x192), .val (.ref b194), .val (.ref b196), .val (.ref b227), .val (.ref b231), .val (.ref x235)] [(.int (0 : Int32))])) := c237'
      exact absurd rfl hq237
set_option maxRecDepth 65536 in
set_option maxHeartbeats 40000000 in
theorem comes_1 {Post : Tables → Env → Array Value → State → Outcome → State → Prop} (hpost : ∀ tb e args s v u, (limb_1_1.after args s (.returned v) u = true ∧ limb_1_2.after args s (.returned v) u = true ∧ True) → ReturnedEndW s (.returned v) u (Jvm.fieldLocs frame_1_writes args s ++ Jvm.arrayLocs frame_1_arrays args s ++ Jvm.staticLocs frame_1_statics s) 32 4288 → Post tb e args s (.returned v) u) :
    ArmFor flags0 classFile x code maxLocals ret World_1 tables_1 room_1 Calls_1 rest_1 Pre_1 Post := by
  intro l hfl _ _ p e ha hc hk s m args below hf hA hF happ hP
  obtain ⟨hcalls, hrest, hpre⟩ := hP
  obtain ⟨-, -, -, hnamed, -, -, -, hat⟩ := (Spec.applies_iff hf).mp happ
  obtain ⟨hg, hn⟩ := and_e (Cond.before_iff.mp (show (Jvm.Cond.and given_1 narrow_1).before args s = true from hpre))
  obtain ⟨g10, hg⟩ := and_e hg
  obtain ⟨ga0, hg⟩ := and_e hg
  have ga1 := hg
  obtain ⟨w0, w1, rfl⟩ : ∃ w0 w1 : Value, args = #[w0, w1] := by
    have hs : args.size = 2 := by simpa [Cond.value, given_1] using g10
    obtain ⟨L⟩ := args
    match L, hs with
    | [w0, w1], _ => exact ⟨w0, w1, rfl⟩
  have hw := fun d (hd : d ∈ tables_1) => atoms_spec (ws := Jvm.Cond.code x code maxLocals ret :: tables_1) hat d (List.mem_cons_of_mem _ hd)
  have hfit : Fit s := fun {y c} hc i hi => by
    obtain ⟨ha, rfl⟩ := Array.getElem?_eq_some_iff.mp hc
    have q := List.all_eq_true.mp ((Array.all_eq_true_iff_forall_mem.mp hF) _ (Array.getElem_mem ha)) i (List.mem_range.mpr hi)
    simpa [Array.getElem?_eq_getElem hi] using q
  obtain ⟨i0, ei0⟩ := is_v ga0
  obtain rfl : w0 = (.int i0) := Option.some.inj ei0
  obtain ⟨i1, ei1⟩ := is_v ga1
  obtain rfl : w1 = (.int i1) := Option.some.inj ei1
  obtain ⟨hsets, hown0⟩ := atoms_of _ (rest_1_c_eq ▸ (show rest_1_c.before _ s = true from hrest))
  obtain ⟨z, ez⟩ := is_v (Cond.before_iff.mp (hsets _ (List.mem_of_getElem? (i := 1) rfl)))
  have hz : ¬ z = 0 := by
    have q := not_v (Cond.before_iff.mp (hsets _ (List.mem_of_getElem? (i := 2) rfl)))
    intro hz
    subst hz
    rw [eq_i ez (Term.int_eval (0)) rfl] at q
    cases q
  have SC := Sta.start ez (Or.inl (hsets _ (List.mem_of_getElem? (i := 0) rfl)))
  obtain ⟨fm, efm, hfm⟩ := isR_v (Cond.before_iff.mp (hsets _ (List.mem_of_getElem? (i := 8) rfl)))
  have SF := Sta.start efm (Or.inl (hsets _ (List.mem_of_getElem? (i := 7) rfl)))
  have hEL : EW s #[.int i0, .int i1] EL := (EW.cons (hw _ (List.mem_of_getElem? (i := 49) rfl)) (by decide) (EW.cons (hw _ (List.mem_of_getElem? (i := 38) rfl)) (by decide) (EW.cons (hw _ (List.mem_of_getElem? (i := 31) rfl)) (by decide) (EW.cons (hw _ (List.mem_of_getElem? (i := 73) rfl)) (by decide) EW.nil))))
  have hCH : CHv s EL s.vm s.heap := CHv.start hEL (fun q hq => hcalls.1 q hq) (hsets _ (List.mem_of_getElem? (i := 2) rfl)) (hw _ (List.mem_of_getElem? (i := 20) rfl)) (hw _ (List.mem_of_getElem? (i := 3) rfl))
  have M := rm0 l s _ hw hEL i0 i1 z fm s.heap (Old.start s) SC hz SF hfm
  obtain ⟨n, o, h1, h2, h3, _, L, rfl, ⟨N, rfl⟩, -, hq⟩ := own_wmet (ws := tables_1) (plainFor_of_name (by first | (simp [plainName, overriddenIn]; done) | decide +kernel)) hEL M p e ha hc hk s m _ below hf ((Spec.applies_iff_loose hf).mp happ).1 ⟨rfl, State.Warmed39.refl s, rfl, hCH, fun _ q => nomatch q⟩ trivial
  refine ⟨n, _, h1, h2, h3, hpost _ _ _ _ _ _ ⟨Cond.after_iff.mpr rfl, Cond.after_iff.mpr (eq_i res_at (Term.int_eval (1)) rfl), trivial⟩ ⟨hq.1, hq.2.1, hq.2.2.1, (hq.2.2.2.sift fun y hy => Or.inr (N y hy)).mono (by decide) (by decide)⟩⟩
theorem main_1_1 : Claimed_1_1 := comes_1 fun _ _ _ _ _ _ h hF => ⟨h.1, hF⟩
theorem main_1_2 : Claimed_1_2 := comes_1 fun _ _ _ _ _ _ h hF => ⟨h.2.1, hF⟩
end Jvm.Pilot.@@N@@
namespace Jvm.Pilot.@@N@@
open Jvm Jvm.ClassFile Sem Op Lib Jvm.Free Jvm.Stand Jvm.Pilot.@@N@@.Jvm.D
/-! MADE BY PROGRAM (witnessworld.py) out of the Statement's table words and the real class files: 23 classes; the members and pool entries that the words name. The judged class is class 1, her method 1. -/
namespace start1
open Jvm.ClassFile
def u (s : String) : CpInfo := .utf8 (stringToUtf16 s)
/-- a pool by its gaps: so many unusable entries, then the entry; so many at the end -/
def gap : Nat → List CpInfo → List CpInfo
  | 0, r => r
  | n + 1, r => .unusable :: gap n r
def poolList (es : List (Nat × CpInfo)) (last : Nat) : List CpInfo := es.foldr (fun e r => gap e.1 (e.2 :: r)) (gap last [])
def pool (es : List (Nat × CpInfo)) (last : Nat) : Array CpInfo := ⟨poolList es last⟩
def fileOf (pool : Array CpInfo) (this : Nat) (attrs : Array Attribute := #[]) (ms : Array MethodInfo := #[]) (fl : Nat := 33) (sup : Nat := 0) (ifs : Array Nat := #[]) (fds : Array FieldInfo := #[]) : ClassFile where
  minorVersion := 0
  majorVersion := 65
  constantPool := pool
  accessFlags := fl
  thisClass := this
  superClass := sup
  interfaces := ifs
  fields := fds
  methods := ms
  attributes := attrs
def plain (name : String) (sup : Option ClassId) : Class where
  name := name
  kind := .ordinary
  loader := none
  accessFlags := 33
  super := sup
  interfaces := #[]
  cf := none
  fields := #[]
  methods := #[]
  instanceTypes := #[]
  staticTypes := #[]
  resolved := #[]
  callSites := []
  init := .initialized
  statics := none
  mirror := none

def pool0 : Array CpInfo := pool [(5, u "<init>"), (0, u "()V"), (1, .class_ 10), (1, u "java/lang/Object")] 113

def k0c0 : Code := { maxStack := 0, maxLocals := 1, code := object_method_1_code, exceptionTable := #[], attributes := #[] }
def k0m0 : Method := { name := "<init>", desc := "()V", sig := { parameters := [], returnType := none }, accessFlags := 1, code := some k0c0 }
/-- java/lang/Object -/
def k0 : Class := { plain "java/lang/Object" none with
  accessFlags := 33
  interfaces := #[]
  cf := some (fileOf pool0 8 #[] #[{ accessFlags := 1, nameIndex := 5, descriptorIndex := 6, attributes := #[] }] 33 0 #[] #[])
  fields := #[]
  methods := #[k0m0]
  instanceTypes := #[]
  staticTypes := #[]
  resolved := Array.replicate 124 none
  statics := none }

def pool1 : Array CpInfo := pool [(2, .class_ 4), (1, u "java/lang/Object"), (0, u "<init>"), (0, u "()V"), (0, .integer 2147483647), (0, .class_ 9), (0, u "java/lang/String"), (0, .methodref 8 11), (0, .nameAndType 5 12), (0, u "([C)V"), (0, .methodref 14 15), (0, .class_ 16), (0, .nameAndType 17 18), (0, u "com/example/cambio/cambio/io/MigrationFolder"), (0, u "repeatableName"), (0, u "(Ljava/lang/String;)Ljava/lang/String;"), (0, .methodref 8 20), (0, .nameAndType 21 22), (0, u "equals"), (0, u "(Ljava/lang/Object;)Z"), (0, .class_ 24), (0, u "com/example/cambio/cambio/io/MigrationFolderRepeatableNamePinLaw"), (2, u "law"), (0, u "(II)Z")] 5

def k1m0 : Method := { name := "<init>", desc := "()V", sig := { parameters := [], returnType := none }, accessFlags := 2, code := none }
def k1c1 : Code := { maxStack := 3, maxLocals := 12, code := code, exceptionTable := #[], attributes := #[] }
def k1m1 : Method := { name := "law", desc := "(II)Z", sig := { parameters := [.int, .int], returnType := some .boolean }, accessFlags := 9, code := some k1c1 }
/-- com/example/cambio/cambio/io/MigrationFolderRepeatableNamePinLaw -/
def k1 : Class := { plain "com/example/cambio/cambio/io/MigrationFolderRepeatableNamePinLaw" (some 0) with
  accessFlags := 49
  interfaces := #[]
  cf := some (fileOf pool1 23 #[] #[{ accessFlags := 2, nameIndex := 5, descriptorIndex := 6, attributes := #[] }, { accessFlags := 9, nameIndex := 27, descriptorIndex := 28, attributes := #[] }] 49 2 #[] #[])
  fields := #[]
  methods := #[k1m0, k1m1]
  instanceTypes := #[]
  staticTypes := #[]
  resolved := Array.replicate 34 none
  statics := none }

def pool2 : Array CpInfo := pool [(1, .class_ 2), (0, u "java/io/Serializable"), (0, .class_ 4), (0, u "java/lang/Object")] 2

/-- java/io/Serializable -/
def k2 : Class := { plain "java/io/Serializable" (some 0) with
  accessFlags := 1537
  interfaces := #[]
  cf := some (fileOf pool2 1 #[] #[] 1537 3 #[] #[])
  fields := #[]
  methods := #[]
  instanceTypes := #[]
  staticTypes := #[]
  resolved := Array.replicate 7 none
  statics := none }

def pool3 : Array CpInfo := pool [(1, .class_ 2), (0, u "java/lang/Comparable"), (0, .class_ 4), (0, u "java/lang/Object")] 7

/-- java/lang/Comparable -/
def k3 : Class := { plain "java/lang/Comparable" (some 0) with
  accessFlags := 1537
  interfaces := #[]
  cf := some (fileOf pool3 1 #[] #[] 1537 3 #[] #[])
  fields := #[]
  methods := #[]
  instanceTypes := #[]
  staticTypes := #[]
  resolved := Array.replicate 12 none
  statics := none }

def pool4 : Array CpInfo := pool [(2, .class_ 4), (1, u "java/lang/CharSequence"), (42, .class_ 48), (0, u "java/lang/CharSequence$1CodePointIterator"), (10, .class_ 60), (0, u "java/lang/CharSequence$1CharIterator"), (5, .class_ 67), (0, u "java/lang/Object")] 63

/-- java/lang/CharSequence -/
def k4 : Class := { plain "java/lang/CharSequence" (some 0) with
  accessFlags := 1537
  interfaces := #[]
  cf := some (fileOf pool4 2 #[.nestMembers #[47, 59]] #[] 1537 66 #[] #[])
  fields := #[]
  methods := #[]
  instanceTypes := #[]
  staticTypes := #[]
  resolved := Array.replicate 131 none
  statics := none }

def pool5 : Array CpInfo := pool [(1, .class_ 2), (0, u "java/lang/constant/Constable"), (0, .class_ 4), (0, u "java/lang/Object")] 6

/-- java/lang/constant/Constable -/
def k5 : Class := { plain "java/lang/constant/Constable" (some 0) with
  accessFlags := 1537
  interfaces := #[]
  cf := some (fileOf pool5 1 #[] #[] 1537 3 #[] #[])
  fields := #[]
  methods := #[]
  instanceTypes := #[]
  staticTypes := #[]
  resolved := Array.replicate 11 none
  statics := none }

def pool6 : Array CpInfo := pool [(1, .class_ 2), (0, u "java/lang/constant/ConstantDesc"), (0, .class_ 4), (0, u "java/lang/Object")] 32

/-- java/lang/constant/ConstantDesc -/
def k6 : Class := { plain "java/lang/constant/ConstantDesc" (some 0) with
  accessFlags := 1537
  interfaces := #[]
  cf := some (fileOf pool6 1 #[] #[] 1537 3 #[] #[])
  fields := #[]
  methods := #[]
  instanceTypes := #[]
  staticTypes := #[]
  resolved := Array.replicate 37 none
  statics := none }

def pool7 : Array CpInfo := pool [(1, .methodref 2 3), (0, .class_ 4), (0, .nameAndType 5 6), (0, u "java/lang/Object"), (0, u "<init>"), (0, u "()V"), (0, .string 8), (0, u ""), (0, .fieldref 10 11), (0, .class_ 12), (0, .nameAndType 13 14), (0, u "java/lang/String"), (0, u "value"), (0, u "[B"), (0, .fieldref 10 16), (0, .nameAndType 17 18), (0, u "coder"), (0, u "B"), (2, u "hash"), (0, u "I"), (2, u "hashIsZero"), (0, u "Z"), (0, .methodref 10 28), (0, .nameAndType 5 29), (0, u "([CIILjava/lang/Void;)V"), (8, .fieldref 10 39), (0, .nameAndType 40 26), (0, u "COMPACT_STRINGS"), (1, .class_ 44), (1, u "java/lang/StringUTF16"), (0, u "compress"), (1, .methodref 42 48), (0, .nameAndType 49 50), (0, u "coderFromArrayLen"), (0, u "([BI)B"), (56, .class_ 109), (1, u "java/lang/StringLatin1"), (32, u "()Z"), (34, .methodref 42 178), (0, .nameAndType 45 179), (0, u "([CII)[B"), (31, u "([BB)V"), (122, u "()I"), (0, .methodref 10 336), (0, .nameAndType 17 337), (0, u "()B"), (154, .methodref 10 493), (0, .nameAndType 494 142), (0, u "isLatin1"), (10, .methodref 10 506), (0, .nameAndType 507 334), (0, u "length"), (5, u "checkFromToIndex"), (7, .methodref 10 522), (0, .nameAndType 523 524), (0, u "checkBoundsBeginEnd"), (0, u "(III)V"), (16, .methodref 107 542), (0, .nameAndType 543 544), (0, u "equals"), (0, u "([B[B)Z"), (28, u "(Ljava/lang/Object;)Z"), (1, .class_ 576), (0, u "java/lang/CharSequence"), (22, u "CASE_INSENSITIVE_ORDER"), (0, u "Ljava/util/Comparator;"), (82, u "substring"), (0, u "(II)Ljava/lang/String;"), (0, .methodref 107 686), (0, .nameAndType 687 688), (0, u "newString"), (0, u "([BII)Ljava/lang/String;"), (321, u "([C)V"), (42, .fieldref 1054 1055), (0, .class_ 1056), (0, .nameAndType 1057 1058), (0, u "jdk/internal/util/Preconditions"), (0, u "SIOOBE_FORMATTER"), (0, u "Ljava/util/function/BiFunction;"), (3, .methodref 1054 1063), (0, .nameAndType 513 1064), (0, u "(IIILjava/util/function/BiFunction;)I"), (36, u "serialPersistentFields"), (0, u "[Ljava/io/ObjectStreamField;"), (0, .class_ 1104), (0, u "java/lang/String$CaseInsensitiveComparator"), (1, .class_ 1107), (0, u "java/io/Serializable"), (0, .class_ 1109), (0, u "java/lang/Comparable"), (0, .class_ 1111), (0, u "java/lang/constant/Constable"), (0, .class_ 1113), (0, u "java/lang/constant/ConstantDesc"), (2, u "serialVersionUID"), (0, u "J"), (3, u "REPL"), (0, u "C"), (2, u "LATIN1"), (1, u "UTF16")] 323

def k7m0 : Method := { name := "<init>", desc := "()V", sig := { parameters := [], returnType := none }, accessFlags := 1, code := none }
def k7c1 : Code := { maxStack := 5, maxLocals := 2, code := jdk_42_method_3_code, exceptionTable := #[], attributes := #[] }
def k7m1 : Method := { name := "<init>", desc := "([C)V", sig := { parameters := [(.array .char)], returnType := none }, accessFlags := 1, code := some k7c1 }
def k7c2 : Code := { maxStack := 2, maxLocals := 1, code := jdk_42_method_54_code, exceptionTable := #[], attributes := #[] }
def k7m2 : Method := { name := "length", desc := "()I", sig := { parameters := [], returnType := some .int }, accessFlags := 1, code := some k7c2 }
def k7c3 : Code := { maxStack := 2, maxLocals := 3, code := jdk_42_method_66_code, exceptionTable := #[], attributes := #[] }
def k7m3 : Method := { name := "equals", desc := "(Ljava/lang/Object;)Z", sig := { parameters := [(.object "java/lang/Object")], returnType := some .boolean }, accessFlags := 1, code := some k7c3 }
def k7c4 : Code := { maxStack := 3, maxLocals := 5, code := jdk_42_method_92_code, exceptionTable := #[], attributes := #[] }
def k7m4 : Method := { name := "substring", desc := "(II)Ljava/lang/String;", sig := { parameters := [.int, .int], returnType := some (.object "java/lang/String") }, accessFlags := 1, code := some k7c4 }
def k7c5 : Code := { maxStack := 4, maxLocals := 6, code := jdk_42_method_149_code, exceptionTable := #[], attributes := #[] }
def k7m5 : Method := { name := "<init>", desc := "([CIILjava/lang/Void;)V", sig := { parameters := [(.array .char), .int, .int, (.object "java/lang/Void")], returnType := none }, accessFlags := 2, code := some k7c5 }
def k7c6 : Code := { maxStack := 2, maxLocals := 3, code := jdk_42_method_151_code, exceptionTable := #[], attributes := #[] }
def k7m6 : Method := { name := "<init>", desc := "([BB)V", sig := { parameters := [(.array .byte), .byte], returnType := none }, accessFlags := 0, code := some k7c6 }
def k7c7 : Code := { maxStack := 1, maxLocals := 1, code := jdk_42_method_152_code, exceptionTable := #[], attributes := #[] }
def k7m7 : Method := { name := "coder", desc := "()B", sig := { parameters := [], returnType := some .byte }, accessFlags := 0, code := some k7c7 }
def k7c8 : Code := { maxStack := 1, maxLocals := 1, code := jdk_42_method_154_code, exceptionTable := #[], attributes := #[] }
def k7m8 : Method := { name := "isLatin1", desc := "()Z", sig := { parameters := [], returnType := some .boolean }, accessFlags := 0, code := some k7c8 }
def k7c9 : Code := { maxStack := 4, maxLocals := 3, code := jdk_42_method_158_code, exceptionTable := #[], attributes := #[] }
def k7m9 : Method := { name := "checkBoundsBeginEnd", desc := "(III)V", sig := { parameters := [.int, .int, .int], returnType := none }, accessFlags := 8, code := some k7c9 }
/-- java/lang/String -/
def k7 : Class := { plain "java/lang/String" (some 0) with
  accessFlags := 49
  interfaces := #[2, 3, 4, 5, 6]
  cf := some (fileOf pool7 10 #[.nestMembers #[1103]] #[{ accessFlags := 1, nameIndex := 5, descriptorIndex := 6, attributes := #[] }, { accessFlags := 1, nameIndex := 5, descriptorIndex := 1010, attributes := #[] }, { accessFlags := 1, nameIndex := 507, descriptorIndex := 334, attributes := #[] }, { accessFlags := 1, nameIndex := 543, descriptorIndex := 573, attributes := #[] }, { accessFlags := 1, nameIndex := 683, descriptorIndex := 684, attributes := #[] }, { accessFlags := 2, nameIndex := 5, descriptorIndex := 29, attributes := #[] }, { accessFlags := 0, nameIndex := 5, descriptorIndex := 211, attributes := #[] }, { accessFlags := 0, nameIndex := 17, descriptorIndex := 337, attributes := #[] }, { accessFlags := 0, nameIndex := 494, descriptorIndex := 142, attributes := #[] }, { accessFlags := 8, nameIndex := 523, descriptorIndex := 524, attributes := #[] }] 49 2 #[1106, 1108, 575, 1110, 1112] #[{ accessFlags := 18, nameIndex := 13, descriptorIndex := 14, attributes := #[] }, { accessFlags := 18, nameIndex := 17, descriptorIndex := 18, attributes := #[] }, { accessFlags := 2, nameIndex := 21, descriptorIndex := 22, attributes := #[] }, { accessFlags := 2, nameIndex := 25, descriptorIndex := 26, attributes := #[] }, { accessFlags := 26, nameIndex := 1116, descriptorIndex := 1117, attributes := #[] }, { accessFlags := 24, nameIndex := 40, descriptorIndex := 26, attributes := #[] }, { accessFlags := 26, nameIndex := 1101, descriptorIndex := 1102, attributes := #[] }, { accessFlags := 26, nameIndex := 1121, descriptorIndex := 1122, attributes := #[] }, { accessFlags := 25, nameIndex := 599, descriptorIndex := 600, attributes := #[] }, { accessFlags := 24, nameIndex := 1125, descriptorIndex := 18, attributes := #[] }, { accessFlags := 24, nameIndex := 1127, descriptorIndex := 18, attributes := #[] }])
  fields := #[{ name := "value", type := (.array .byte), accessFlags := 18, slot := 0, constantValue := 0 }, { name := "coder", type := .byte, accessFlags := 18, slot := 1, constantValue := 0 }, { name := "hash", type := .int, accessFlags := 2, slot := 2, constantValue := 0 }, { name := "hashIsZero", type := .boolean, accessFlags := 2, slot := 3, constantValue := 0 }, { name := "serialVersionUID", type := .long, accessFlags := 26, slot := 0, constantValue := 0 }, { name := "COMPACT_STRINGS", type := .boolean, accessFlags := 24, slot := 1, constantValue := 0 }, { name := "serialPersistentFields", type := (.array (.object "java/io/ObjectStreamField")), accessFlags := 26, slot := 2, constantValue := 0 }, { name := "REPL", type := .char, accessFlags := 26, slot := 3, constantValue := 0 }, { name := "CASE_INSENSITIVE_ORDER", type := (.object "java/util/Comparator"), accessFlags := 25, slot := 4, constantValue := 0 }, { name := "LATIN1", type := .byte, accessFlags := 24, slot := 5, constantValue := 0 }, { name := "UTF16", type := .byte, accessFlags := 24, slot := 6, constantValue := 0 }]
  methods := #[k7m0, k7m1, k7m2, k7m3, k7m4, k7m5, k7m6, k7m7, k7m8, k7m9]
  instanceTypes := #[(.array .byte), .byte, .int, .boolean]
  staticTypes := #[.long, .boolean, (.array (.object "java/io/ObjectStreamField")), .char, (.object "java/util/Comparator"), .byte, .byte]
  resolved := Array.replicate 1451 none
  statics := some 0 }

def pool8 : Array CpInfo := pool [(6, .class_ 8), (1, u "java/lang/Object"), (0, u "<init>"), (0, u "()V"), (1, .class_ 14), (1, u "java/lang/StringUTF16"), (31, u "$assertionsDisabled"), (0, u "Z"), (13, u "HI_BYTE_SHIFT"), (0, u "I"), (2, u "LO_BYTE_SHIFT"), (49, .methodref 12 116), (0, .nameAndType 117 118), (0, u "compress"), (0, u "([CI[BII)I"), (3, u "([CII)[B"), (138, u "coderFromArrayLen"), (0, u "([BI)B"), (106, .class_ 371), (1, u "java/lang/StringUTF16$LinesSpliterator"), (58, u "MAX_LENGTH"), (196, .class_ 628), (0, u "java/lang/StringUTF16$CodePointsSpliterator"), (0, .class_ 630), (0, u "java/lang/StringUTF16$CharsSpliterator")] 4

def k8m0 : Method := { name := "<init>", desc := "()V", sig := { parameters := [], returnType := none }, accessFlags := 0, code := none }
def k8c1 : Code := { maxStack := 2, maxLocals := 2, code := jdk_52_method_15_code, exceptionTable := #[], attributes := #[] }
def k8m1 : Method := { name := "coderFromArrayLen", desc := "([BI)B", sig := { parameters := [(.array .byte), .int], returnType := some .byte }, accessFlags := 8, code := some k8c1 }
def k8c2 : Code := { maxStack := 5, maxLocals := 6, code := jdk_52_method_16_code, exceptionTable := #[], attributes := #[] }
def k8m2 : Method := { name := "compress", desc := "([CII)[B", sig := { parameters := [(.array .char), .int, .int], returnType := some (.array .byte) }, accessFlags := 9, code := some k8c2 }
def k8c3 : Code := { maxStack := 3, maxLocals := 7, code := jdk_52_method_21_code, exceptionTable := #[], attributes := #[] }
def k8m3 : Method := { name := "compress", desc := "([CI[BII)I", sig := { parameters := [(.array .char), .int, (.array .byte), .int, .int], returnType := some .int }, accessFlags := 9, code := some k8c3 }
/-- java/lang/StringUTF16 -/
def k8 : Class := { plain "java/lang/StringUTF16" (some 0) with
  accessFlags := 48
  interfaces := #[]
  cf := some (fileOf pool8 12 #[.nestMembers #[627, 629, 369]] #[{ accessFlags := 0, nameIndex := 9, descriptorIndex := 10, attributes := #[] }, { accessFlags := 8, nameIndex := 261, descriptorIndex := 262, attributes := #[] }, { accessFlags := 9, nameIndex := 117, descriptorIndex := 122, attributes := #[] }, { accessFlags := 9, nameIndex := 117, descriptorIndex := 118, attributes := #[] }] 48 6 #[] #[{ accessFlags := 26, nameIndex := 61, descriptorIndex := 62, attributes := #[] }, { accessFlags := 26, nameIndex := 65, descriptorIndex := 62, attributes := #[] }, { accessFlags := 24, nameIndex := 430, descriptorIndex := 62, attributes := #[] }, { accessFlags := 4120, nameIndex := 46, descriptorIndex := 47, attributes := #[] }])
  fields := #[{ name := "HI_BYTE_SHIFT", type := .int, accessFlags := 26, slot := 0, constantValue := 0 }, { name := "LO_BYTE_SHIFT", type := .int, accessFlags := 26, slot := 1, constantValue := 0 }, { name := "MAX_LENGTH", type := .int, accessFlags := 24, slot := 2, constantValue := 0 }, { name := "$assertionsDisabled", type := .boolean, accessFlags := 4120, slot := 3, constantValue := 0 }]
  methods := #[k8m0, k8m1, k8m2, k8m3]
  instanceTypes := #[]
  staticTypes := #[.int, .int, .int, .boolean]
  resolved := Array.replicate 635 none
  statics := none }

def pool9 : Array CpInfo := pool [(2, .class_ 4), (1, u "java/lang/Object"), (3, .class_ 10), (1, u "com/example/cambio/cambio/io/MigrationFolder"), (0, u "versioned"), (0, u "Ljava/util/List;"), (2, u "order"), (0, u "Lcom/example/cambio/cambio/io/RepeatableOrder;"), (11, .class_ 30), (1, u "java/lang/String"), (5, u "(Ljava/lang/String;)Ljava/lang/String;"), (65, .string 103), (0, u ".sql"), (4, .string 109), (0, u "R__"), (61, .methodref 28 172), (0, .nameAndType 173 174), (0, u "length"), (0, u "()I"), (0, .methodref 28 176), (0, .nameAndType 177 178), (0, u "substring"), (0, u "(II)Ljava/lang/String;"), (2, u "repeatableName"), (84, u "REPEATABLE_PREFIX"), (0, u "Ljava/lang/String;"), (1, u "SUFFIX"), (0, u "BYTE_ORDER_MARK")] 66

def k9c0 : Code := { maxStack := 4, maxLocals := 1, code := prog_23_method_6_code, exceptionTable := #[], attributes := #[] }
def k9m0 : Method := { name := "repeatableName", desc := "(Ljava/lang/String;)Ljava/lang/String;", sig := { parameters := [(.object "java/lang/String")], returnType := some (.object "java/lang/String") }, accessFlags := 8, code := some k9c0 }
/-- com/example/cambio/cambio/io/MigrationFolder -/
def k9 : Class := { plain "com/example/cambio/cambio/io/MigrationFolder" (some 0) with
  accessFlags := 49
  interfaces := #[]
  cf := some (fileOf pool9 8 #[] #[{ accessFlags := 8, nameIndex := 181, descriptorIndex := 36, attributes := #[] }] 49 2 #[] #[{ accessFlags := 26, nameIndex := 266, descriptorIndex := 267, attributes := #[] }, { accessFlags := 26, nameIndex := 269, descriptorIndex := 267, attributes := #[] }, { accessFlags := 26, nameIndex := 270, descriptorIndex := 267, attributes := #[] }, { accessFlags := 18, nameIndex := 11, descriptorIndex := 12, attributes := #[] }, { accessFlags := 18, nameIndex := 15, descriptorIndex := 16, attributes := #[] }])
  fields := #[{ name := "REPEATABLE_PREFIX", type := (.object "java/lang/String"), accessFlags := 26, slot := 0, constantValue := 0 }, { name := "SUFFIX", type := (.object "java/lang/String"), accessFlags := 26, slot := 1, constantValue := 0 }, { name := "BYTE_ORDER_MARK", type := (.object "java/lang/String"), accessFlags := 26, slot := 2, constantValue := 0 }, { name := "versioned", type := (.object "java/util/List"), accessFlags := 18, slot := 0, constantValue := 0 }, { name := "order", type := (.object "com/example/cambio/cambio/io/RepeatableOrder"), accessFlags := 18, slot := 1, constantValue := 0 }]
  methods := #[k9m0]
  instanceTypes := #[(.object "java/util/List"), (.object "com/example/cambio/cambio/io/RepeatableOrder")]
  staticTypes := #[(.object "java/lang/String"), (.object "java/lang/String"), (.object "java/lang/String")]
  resolved := Array.replicate 337 none
  statics := none }

def pool10 : Array CpInfo := pool [(2, .class_ 4), (1, u "java/lang/Object"), (0, u "<init>"), (0, u "()V"), (17, .class_ 26), (1, u "jdk/internal/util/Preconditions"), (20, u "checkFromToIndex"), (7, .class_ 56), (0, u "jdk/internal/util/Preconditions$4"), (57, .class_ 115), (0, u "jdk/internal/util/Preconditions$1"), (7, u "SIOOBE_FORMATTER"), (0, u "Ljava/util/function/BiFunction;"), (0, .class_ 126), (0, u "jdk/internal/util/Preconditions$2"), (3, u "AIOOBE_FORMATTER"), (0, .class_ 132), (0, u "jdk/internal/util/Preconditions$3"), (3, u "IOOBE_FORMATTER"), (46, u "(IIILjava/util/function/BiFunction;)I")] 10

def k10m0 : Method := { name := "<init>", desc := "()V", sig := { parameters := [], returnType := none }, accessFlags := 1, code := none }
def k10c1 : Code := { maxStack := 4, maxLocals := 4, code := jdk_41_method_12_code, exceptionTable := #[], attributes := #[] }
def k10m1 : Method := { name := "checkFromToIndex", desc := "(IIILjava/util/function/BiFunction;)I", sig := { parameters := [.int, .int, .int, (.object "java/util/function/BiFunction")], returnType := some .int }, accessFlags := 9, code := some k10c1 }
/-- jdk/internal/util/Preconditions -/
def k10 : Class := { plain "jdk/internal/util/Preconditions" (some 0) with
  accessFlags := 33
  interfaces := #[]
  cf := some (fileOf pool10 24 #[.nestMembers #[55, 131, 125, 114]] #[{ accessFlags := 1, nameIndex := 5, descriptorIndex := 6, attributes := #[] }, { accessFlags := 9, nameIndex := 47, descriptorIndex := 183, attributes := #[] }] 33 2 #[] #[{ accessFlags := 25, nameIndex := 123, descriptorIndex := 124, attributes := #[] }, { accessFlags := 25, nameIndex := 130, descriptorIndex := 124, attributes := #[] }, { accessFlags := 25, nameIndex := 136, descriptorIndex := 124, attributes := #[] }])
  fields := #[{ name := "SIOOBE_FORMATTER", type := (.object "java/util/function/BiFunction"), accessFlags := 25, slot := 0, constantValue := 0 }, { name := "AIOOBE_FORMATTER", type := (.object "java/util/function/BiFunction"), accessFlags := 25, slot := 1, constantValue := 0 }, { name := "IOOBE_FORMATTER", type := (.object "java/util/function/BiFunction"), accessFlags := 25, slot := 2, constantValue := 0 }]
  methods := #[k10m0, k10m1]
  instanceTypes := #[]
  staticTypes := #[(.object "java/util/function/BiFunction"), (.object "java/util/function/BiFunction"), (.object "java/util/function/BiFunction")]
  resolved := Array.replicate 194 none
  statics := some 1 }

def pool11 : Array CpInfo := pool [(1, .class_ 2), (0, u "java/lang/String"), (1, .class_ 6), (1, u "java/lang/Object"), (0, u "<init>"), (0, u "()V"), (5, .class_ 16), (1, u "java/lang/StringLatin1"), (95, .methodref 1 113), (0, .nameAndType 7 114), (0, u "([BB)V"), (6, u "$assertionsDisabled"), (0, u "Z"), (8, .class_ 133), (1, u "java/util/Arrays"), (17, .string 152), (0, u ""), (43, u "newString"), (0, u "([BII)Ljava/lang/String;"), (23, .class_ 223), (1, u "java/lang/StringLatin1$LinesSpliterator"), (8, .methodref 131 233), (0, .nameAndType 234 235), (0, u "copyOfRange"), (0, u "([BII)[B"), (45, u "equals"), (0, u "([B[B)Z"), (107, .class_ 391), (0, u "java/lang/StringLatin1$CharsSpliterator")] 3

def k11m0 : Method := { name := "<init>", desc := "()V", sig := { parameters := [], returnType := none }, accessFlags := 0, code := none }
def k11c1 : Code := { maxStack := 3, maxLocals := 3, code := jdk_43_method_13_code, exceptionTable := #[], attributes := #[] }
def k11m1 : Method := { name := "equals", desc := "([B[B)Z", sig := { parameters := [(.array .byte), (.array .byte)], returnType := some .boolean }, accessFlags := 9, code := some k11c1 }
def k11c2 : Code := { maxStack := 6, maxLocals := 3, code := jdk_43_method_47_code, exceptionTable := #[], attributes := #[] }
def k11m2 : Method := { name := "newString", desc := "([BII)Ljava/lang/String;", sig := { parameters := [(.array .byte), .int, .int], returnType := some (.object "java/lang/String") }, accessFlags := 9, code := some k11c2 }
/-- java/lang/StringLatin1 -/
def k11 : Class := { plain "java/lang/StringLatin1" (some 0) with
  accessFlags := 48
  interfaces := #[]
  cf := some (fileOf pool11 14 #[.nestMembers #[390, 221]] #[{ accessFlags := 0, nameIndex := 7, descriptorIndex := 8, attributes := #[] }, { accessFlags := 9, nameIndex := 281, descriptorIndex := 282, attributes := #[] }, { accessFlags := 9, nameIndex := 196, descriptorIndex := 197, attributes := #[] }] 48 4 #[] #[{ accessFlags := 4120, nameIndex := 121, descriptorIndex := 122, attributes := #[] }])
  fields := #[{ name := "$assertionsDisabled", type := .boolean, accessFlags := 4120, slot := 0, constantValue := 0 }]
  methods := #[k11m0, k11m1, k11m2]
  instanceTypes := #[]
  staticTypes := #[.boolean]
  resolved := Array.replicate 395 none
  statics := none }

def pool12 : Array CpInfo := pool [(2, .class_ 4), (1, u "java/lang/Object"), (0, u "<init>"), (0, u "()V"), (7, .class_ 16), (1, u "java/util/Arrays"), (57, .class_ 76), (1, u "java/util/Arrays$NaturalOrder"), (36, .class_ 115), (1, u "java/util/Arrays$LegacyMergeSort"), (1, u "Z"), (21, u "copyOfRange"), (10, .methodref 151 152), (0, .class_ 153), (0, .nameAndType 154 155), (0, u "java/lang/System"), (0, u "arraycopy"), (0, u "(Ljava/lang/Object;ILjava/lang/Object;II)V"), (148, .methodref 305 306), (0, .class_ 307), (0, .nameAndType 308 309), (0, u "java/lang/Math"), (0, u "min"), (0, u "(II)I"), (29, .methodref 14 340), (0, .nameAndType 341 342), (0, u "copyOfRangeByte"), (0, u "([BII)[B"), (0, .methodref 14 344), (0, .nameAndType 345 346), (0, u "checkLength"), (0, u "(II)V"), (28, .class_ 376), (0, u "java/util/Arrays$ArrayList"), (68, u "$assertionsDisabled"), (269, u "MIN_ARRAY_SORT_GRAN"), (0, u "I"), (2, u "INSERTIONSORT_THRESHOLD"), (255, .class_ 976), (0, u "java/util/Arrays$ArrayItr")] 52

def k12m0 : Method := { name := "<init>", desc := "()V", sig := { parameters := [], returnType := none }, accessFlags := 2, code := none }
def k12c1 : Code := { maxStack := 4, maxLocals := 2, code := jdk_65_method_131_code, exceptionTable := #[], attributes := #[] }
def k12m1 : Method := { name := "checkLength", desc := "(II)V", sig := { parameters := [.int, .int], returnType := none }, accessFlags := 10, code := some k12c1 }
def k12c2 : Code := { maxStack := 3, maxLocals := 3, code := jdk_65_method_132_code, exceptionTable := #[], attributes := #[] }
def k12m2 : Method := { name := "copyOfRange", desc := "([BII)[B", sig := { parameters := [(.array .byte), .int, .int], returnType := some (.array .byte) }, accessFlags := 9, code := some k12c2 }
def k12c3 : Code := { maxStack := 6, maxLocals := 5, code := jdk_65_method_133_code, exceptionTable := #[], attributes := #[] }
def k12m3 : Method := { name := "copyOfRangeByte", desc := "([BII)[B", sig := { parameters := [(.array .byte), .int, .int], returnType := some (.array .byte) }, accessFlags := 10, code := some k12c3 }
/-- java/util/Arrays -/
def k12 : Class := { plain "java/util/Arrays" (some 0) with
  accessFlags := 49
  interfaces := #[]
  cf := some (fileOf pool12 14 #[.nestMembers #[975, 375, 113, 74]] #[{ accessFlags := 2, nameIndex := 5, descriptorIndex := 6, attributes := #[] }, { accessFlags := 10, nameIndex := 345, descriptorIndex := 346, attributes := #[] }, { accessFlags := 9, nameIndex := 139, descriptorIndex := 342, attributes := #[] }, { accessFlags := 10, nameIndex := 341, descriptorIndex := 342, attributes := #[] }] 49 2 #[] #[{ accessFlags := 26, nameIndex := 715, descriptorIndex := 716, attributes := #[] }, { accessFlags := 26, nameIndex := 719, descriptorIndex := 716, attributes := #[] }, { accessFlags := 4120, nameIndex := 445, descriptorIndex := 117, attributes := #[] }])
  fields := #[{ name := "MIN_ARRAY_SORT_GRAN", type := .int, accessFlags := 26, slot := 0, constantValue := 0 }, { name := "INSERTIONSORT_THRESHOLD", type := .int, accessFlags := 26, slot := 1, constantValue := 0 }, { name := "$assertionsDisabled", type := .boolean, accessFlags := 4120, slot := 2, constantValue := 0 }]
  methods := #[k12m0, k12m1, k12m2, k12m3]
  instanceTypes := #[]
  staticTypes := #[.int, .int, .boolean]
  resolved := Array.replicate 1029 none
  statics := none }

def pool13 : Array CpInfo := pool [(1, .class_ 2), (0, u "java/lang/Math"), (1, .class_ 6), (1, u "java/lang/Object"), (0, u "<init>"), (0, u "()V"), (89, .class_ 100), (1, u "java/lang/Math$RandomNumberGeneratorHolder"), (71, u "negativeZeroFloatBits"), (0, u "J"), (2, u "negativeZeroDoubleBits"), (24, u "min"), (43, u "$assertionsDisabled"), (0, u "Z"), (88, u "(II)I"), (2, u "twoToTheDoubleScaleDown"), (0, u "D"), (4, u "twoToTheDoubleScaleUp"), (9, u "E"), (3, u "PI"), (2, u "TAU"), (2, u "DEGREES_TO_RADIANS"), (0, u "RADIANS_TO_DEGREES")] 94

def k13m0 : Method := { name := "<init>", desc := "()V", sig := { parameters := [], returnType := none }, accessFlags := 2, code := none }
def k13c1 : Code := { maxStack := 2, maxLocals := 2, code := jdk_29_method_69_code, exceptionTable := #[], attributes := #[] }
def k13m1 : Method := { name := "min", desc := "(II)I", sig := { parameters := [.int, .int], returnType := some .int }, accessFlags := 9, code := some k13c1 }
/-- java/lang/Math -/
def k13 : Class := { plain "java/lang/Math" (some 0) with
  accessFlags := 49
  interfaces := #[]
  cf := some (fileOf pool13 1 #[.nestMembers #[98]] #[{ accessFlags := 2, nameIndex := 7, descriptorIndex := 8, attributes := #[] }, { accessFlags := 9, nameIndex := 201, descriptorIndex := 335, attributes := #[] }] 49 4 #[] #[{ accessFlags := 25, nameIndex := 354, descriptorIndex := 339, attributes := #[] }, { accessFlags := 25, nameIndex := 358, descriptorIndex := 339, attributes := #[] }, { accessFlags := 25, nameIndex := 361, descriptorIndex := 339, attributes := #[] }, { accessFlags := 26, nameIndex := 364, descriptorIndex := 339, attributes := #[] }, { accessFlags := 26, nameIndex := 365, descriptorIndex := 339, attributes := #[] }, { accessFlags := 26, nameIndex := 172, descriptorIndex := 173, attributes := #[] }, { accessFlags := 26, nameIndex := 176, descriptorIndex := 173, attributes := #[] }, { accessFlags := 8, nameIndex := 344, descriptorIndex := 339, attributes := #[] }, { accessFlags := 8, nameIndex := 338, descriptorIndex := 339, attributes := #[] }, { accessFlags := 4120, nameIndex := 245, descriptorIndex := 246, attributes := #[] }])
  fields := #[{ name := "E", type := .double, accessFlags := 25, slot := 0, constantValue := 0 }, { name := "PI", type := .double, accessFlags := 25, slot := 1, constantValue := 0 }, { name := "TAU", type := .double, accessFlags := 25, slot := 2, constantValue := 0 }, { name := "DEGREES_TO_RADIANS", type := .double, accessFlags := 26, slot := 3, constantValue := 0 }, { name := "RADIANS_TO_DEGREES", type := .double, accessFlags := 26, slot := 4, constantValue := 0 }, { name := "negativeZeroFloatBits", type := .long, accessFlags := 26, slot := 5, constantValue := 0 }, { name := "negativeZeroDoubleBits", type := .long, accessFlags := 26, slot := 6, constantValue := 0 }, { name := "twoToTheDoubleScaleUp", type := .double, accessFlags := 8, slot := 7, constantValue := 0 }, { name := "twoToTheDoubleScaleDown", type := .double, accessFlags := 8, slot := 8, constantValue := 0 }, { name := "$assertionsDisabled", type := .boolean, accessFlags := 4120, slot := 9, constantValue := 0 }]
  methods := #[k13m0, k13m1]
  instanceTypes := #[]
  staticTypes := #[.double, .double, .double, .double, .double, .long, .long, .double, .double, .boolean]
  resolved := Array.replicate 460 none
  statics := none }

def pool14 : Array CpInfo := pool [(2, .class_ 4), (1, u "java/lang/Object"), (0, u "<init>"), (0, u "()V"), (1, .class_ 10), (1, u "java/lang/System"), (0, u "allowSecurityManager"), (0, u "I"), (16, u "cons"), (0, u "Ljava/io/Console;"), (77, .class_ 110), (1, u "java/lang/System$CallersHolder"), (43, u "initialErrStream"), (0, u "Ljava/io/PrintStream;"), (19, u "security"), (0, u "Ljava/lang/SecurityManager;"), (31, .class_ 209), (0, u "java/lang/System$1"), (7, u "props"), (0, u "Ljava/util/Properties;"), (2, u "lineSeparator"), (0, u "Ljava/lang/String;"), (96, .class_ 321), (1, u "java/lang/System$LoggerFinder"), (5, .class_ 328), (0, u "java/lang/System$Logger"), (67, u "err"), (2, u "out"), (91, u "notSupportedJnuEncoding"), (15, u "in"), (17, u "initialIn"), (0, u "Ljava/io/InputStream;"), (35, u "bootLayer"), (0, u "Ljava/lang/ModuleLayer;"), (99, .class_ 664), (0, u "java/lang/System$2"), (9, u "NEVER"), (2, u "MAYBE"), (49, u "arraycopy"), (0, u "(Ljava/lang/Object;ILjava/lang/Object;II)V"), (72, .class_ 802), (0, u "java/lang/System$Logger$Level")] 31

def k14m0 : Method := { name := "<init>", desc := "()V", sig := { parameters := [], returnType := none }, accessFlags := 2, code := none }
def k14m1 : Method := { name := "arraycopy", desc := "(Ljava/lang/Object;ILjava/lang/Object;II)V", sig := { parameters := [(.object "java/lang/Object"), .int, (.object "java/lang/Object"), .int, .int], returnType := none }, accessFlags := 265, code := none }
/-- java/lang/System -/
def k14 : Class := { plain "java/lang/System" (some 0) with
  accessFlags := 49
  interfaces := #[]
  cf := some (fileOf pool14 8 #[.nestMembers #[319, 327, 801, 108, 663, 208]] #[{ accessFlags := 2, nameIndex := 5, descriptorIndex := 6, attributes := #[] }, { accessFlags := 265, nameIndex := 727, descriptorIndex := 728, attributes := #[] }] 49 2 #[] #[{ accessFlags := 25, nameIndex := 507, descriptorIndex := 526, attributes := #[] }, { accessFlags := 25, nameIndex := 399, descriptorIndex := 155, attributes := #[] }, { accessFlags := 25, nameIndex := 396, descriptorIndex := 155, attributes := #[] }, { accessFlags := 10, nameIndex := 525, descriptorIndex := 526, attributes := #[] }, { accessFlags := 26, nameIndex := 674, descriptorIndex := 12, attributes := #[] }, { accessFlags := 26, nameIndex := 677, descriptorIndex := 12, attributes := #[] }, { accessFlags := 10, nameIndex := 11, descriptorIndex := 12, attributes := #[] }, { accessFlags := 74, nameIndex := 175, descriptorIndex := 176, attributes := #[] }, { accessFlags := 10, nameIndex := 491, descriptorIndex := 222, attributes := #[] }, { accessFlags := 74, nameIndex := 29, descriptorIndex := 30, attributes := #[] }, { accessFlags := 74, nameIndex := 154, descriptorIndex := 155, attributes := #[] }, { accessFlags := 10, nameIndex := 217, descriptorIndex := 218, attributes := #[] }, { accessFlags := 10, nameIndex := 221, descriptorIndex := 222, attributes := #[] }, { accessFlags := 8, nameIndex := 562, descriptorIndex := 563, attributes := #[] }])
  fields := #[{ name := "in", type := (.object "java/io/InputStream"), accessFlags := 25, slot := 0, constantValue := 0 }, { name := "out", type := (.object "java/io/PrintStream"), accessFlags := 25, slot := 1, constantValue := 0 }, { name := "err", type := (.object "java/io/PrintStream"), accessFlags := 25, slot := 2, constantValue := 0 }, { name := "initialIn", type := (.object "java/io/InputStream"), accessFlags := 10, slot := 3, constantValue := 0 }, { name := "NEVER", type := .int, accessFlags := 26, slot := 4, constantValue := 0 }, { name := "MAYBE", type := .int, accessFlags := 26, slot := 5, constantValue := 0 }, { name := "allowSecurityManager", type := .int, accessFlags := 10, slot := 6, constantValue := 0 }, { name := "security", type := (.object "java/lang/SecurityManager"), accessFlags := 74, slot := 7, constantValue := 0 }, { name := "notSupportedJnuEncoding", type := (.object "java/lang/String"), accessFlags := 10, slot := 8, constantValue := 0 }, { name := "cons", type := (.object "java/io/Console"), accessFlags := 74, slot := 9, constantValue := 0 }, { name := "initialErrStream", type := (.object "java/io/PrintStream"), accessFlags := 74, slot := 10, constantValue := 0 }, { name := "props", type := (.object "java/util/Properties"), accessFlags := 10, slot := 11, constantValue := 0 }, { name := "lineSeparator", type := (.object "java/lang/String"), accessFlags := 10, slot := 12, constantValue := 0 }, { name := "bootLayer", type := (.object "java/lang/ModuleLayer"), accessFlags := 8, slot := 13, constantValue := 0 }]
  methods := #[k14m0, k14m1]
  instanceTypes := #[]
  staticTypes := #[(.object "java/io/InputStream"), (.object "java/io/PrintStream"), (.object "java/io/PrintStream"), (.object "java/io/InputStream"), .int, .int, .int, (.object "java/lang/SecurityManager"), (.object "java/lang/String"), (.object "java/io/Console"), (.object "java/io/PrintStream"), (.object "java/util/Properties"), (.object "java/lang/String"), (.object "java/lang/ModuleLayer")]
  resolved := Array.replicate 834 none
  statics := none }

def pool15 : Array CpInfo := pool [(9, u "<init>"), (6, .class_ 18), (1, u "java/lang/Object"), (0, u "()V"), (1, .class_ 23), (1, u "jdk/internal/util/ArraysSupport"), (0, u "LOG2_ARRAY_LONG_INDEX_SCALE"), (0, u "I"), (2, u "U"), (0, u "Ljdk/internal/misc/Unsafe;"), (8, u "BIG_ENDIAN"), (0, u "Z"), (8, u "LOG2_BYTE_BIT_SIZE"), (4, u "LOG2_ARRAY_INT_INDEX_SCALE"), (54, u "JLA"), (0, u "Ljdk/internal/access/JavaLangAccess;"), (11, u "LOG2_ARRAY_BOOLEAN_INDEX_SCALE"), (9, u "LOG2_ARRAY_BYTE_INDEX_SCALE"), (5, u "LOG2_ARRAY_CHAR_INDEX_SCALE"), (5, u "LOG2_ARRAY_SHORT_INDEX_SCALE"), (18, u "LOG2_ARRAY_FLOAT_INDEX_SCALE"), (24, u "LOG2_ARRAY_DOUBLE_INDEX_SCALE"), (89, u "T_BOOLEAN"), (2, u "T_CHAR"), (1, u "T_FLOAT"), (1, u "T_DOUBLE"), (1, u "T_BYTE"), (1, u "T_SHORT"), (1, u "T_INT"), (1, u "T_LONG"), (1, u "SOFT_MAX_ARRAY_LENGTH")] 83

def k15m0 : Method := { name := "<init>", desc := "()V", sig := { parameters := [], returnType := none }, accessFlags := 2, code := none }
/-- jdk/internal/util/ArraysSupport -/
def k15 : Class := { plain "jdk/internal/util/ArraysSupport" (some 0) with
  accessFlags := 33
  interfaces := #[]
  cf := some (fileOf pool15 21 #[] #[{ accessFlags := 2, nameIndex := 9, descriptorIndex := 19, attributes := #[] }] 33 16 #[] #[{ accessFlags := 24, nameIndex := 28, descriptorIndex := 29, attributes := #[] }, { accessFlags := 26, nameIndex := 38, descriptorIndex := 39, attributes := #[] }, { accessFlags := 25, nameIndex := 121, descriptorIndex := 25, attributes := #[] }, { accessFlags := 25, nameIndex := 131, descriptorIndex := 25, attributes := #[] }, { accessFlags := 25, nameIndex := 137, descriptorIndex := 25, attributes := #[] }, { accessFlags := 25, nameIndex := 143, descriptorIndex := 25, attributes := #[] }, { accessFlags := 25, nameIndex := 53, descriptorIndex := 25, attributes := #[] }, { accessFlags := 25, nameIndex := 24, descriptorIndex := 25, attributes := #[] }, { accessFlags := 25, nameIndex := 162, descriptorIndex := 25, attributes := #[] }, { accessFlags := 25, nameIndex := 187, descriptorIndex := 25, attributes := #[] }, { accessFlags := 26, nameIndex := 48, descriptorIndex := 25, attributes := #[] }, { accessFlags := 25, nameIndex := 277, descriptorIndex := 25, attributes := #[] }, { accessFlags := 25, nameIndex := 280, descriptorIndex := 25, attributes := #[] }, { accessFlags := 25, nameIndex := 282, descriptorIndex := 25, attributes := #[] }, { accessFlags := 25, nameIndex := 284, descriptorIndex := 25, attributes := #[] }, { accessFlags := 25, nameIndex := 286, descriptorIndex := 25, attributes := #[] }, { accessFlags := 25, nameIndex := 288, descriptorIndex := 25, attributes := #[] }, { accessFlags := 25, nameIndex := 290, descriptorIndex := 25, attributes := #[] }, { accessFlags := 25, nameIndex := 292, descriptorIndex := 25, attributes := #[] }, { accessFlags := 26, nameIndex := 108, descriptorIndex := 109, attributes := #[] }, { accessFlags := 25, nameIndex := 294, descriptorIndex := 25, attributes := #[] }])
  fields := #[{ name := "U", type := (.object "jdk/internal/misc/Unsafe"), accessFlags := 24, slot := 0, constantValue := 0 }, { name := "BIG_ENDIAN", type := .boolean, accessFlags := 26, slot := 1, constantValue := 0 }, { name := "LOG2_ARRAY_BOOLEAN_INDEX_SCALE", type := .int, accessFlags := 25, slot := 2, constantValue := 0 }, { name := "LOG2_ARRAY_BYTE_INDEX_SCALE", type := .int, accessFlags := 25, slot := 3, constantValue := 0 }, { name := "LOG2_ARRAY_CHAR_INDEX_SCALE", type := .int, accessFlags := 25, slot := 4, constantValue := 0 }, { name := "LOG2_ARRAY_SHORT_INDEX_SCALE", type := .int, accessFlags := 25, slot := 5, constantValue := 0 }, { name := "LOG2_ARRAY_INT_INDEX_SCALE", type := .int, accessFlags := 25, slot := 6, constantValue := 0 }, { name := "LOG2_ARRAY_LONG_INDEX_SCALE", type := .int, accessFlags := 25, slot := 7, constantValue := 0 }, { name := "LOG2_ARRAY_FLOAT_INDEX_SCALE", type := .int, accessFlags := 25, slot := 8, constantValue := 0 }, { name := "LOG2_ARRAY_DOUBLE_INDEX_SCALE", type := .int, accessFlags := 25, slot := 9, constantValue := 0 }, { name := "LOG2_BYTE_BIT_SIZE", type := .int, accessFlags := 26, slot := 10, constantValue := 0 }, { name := "T_BOOLEAN", type := .int, accessFlags := 25, slot := 11, constantValue := 0 }, { name := "T_CHAR", type := .int, accessFlags := 25, slot := 12, constantValue := 0 }, { name := "T_FLOAT", type := .int, accessFlags := 25, slot := 13, constantValue := 0 }, { name := "T_DOUBLE", type := .int, accessFlags := 25, slot := 14, constantValue := 0 }, { name := "T_BYTE", type := .int, accessFlags := 25, slot := 15, constantValue := 0 }, { name := "T_SHORT", type := .int, accessFlags := 25, slot := 16, constantValue := 0 }, { name := "T_INT", type := .int, accessFlags := 25, slot := 17, constantValue := 0 }, { name := "T_LONG", type := .int, accessFlags := 25, slot := 18, constantValue := 0 }, { name := "JLA", type := (.object "jdk/internal/access/JavaLangAccess"), accessFlags := 26, slot := 19, constantValue := 0 }, { name := "SOFT_MAX_ARRAY_LENGTH", type := .int, accessFlags := 25, slot := 20, constantValue := 0 }]
  methods := #[k15m0]
  instanceTypes := #[]
  staticTypes := #[(.object "jdk/internal/misc/Unsafe"), .boolean, .int, .int, .int, .int, .int, .int, .int, .int, .int, .int, .int, .int, .int, .int, .int, .int, .int, (.object "jdk/internal/access/JavaLangAccess"), .int]
  resolved := Array.replicate 378 none
  statics := none }

def pool16 : Array CpInfo := pool [(1, u "java/lang/Cloneable"), (0, .class_ 1), (0, u "java/lang/Object"), (0, .class_ 3)] 3

/-- java/lang/Cloneable -/
def k16 : Class := { plain "java/lang/Cloneable" (some 0) with
  accessFlags := 1537
  interfaces := #[]
  cf := some (fileOf pool16 2 #[] #[] 1537 4 #[] #[])
  fields := #[]
  methods := #[]
  instanceTypes := #[]
  staticTypes := #[]
  resolved := Array.replicate 8 none
  statics := none }

/-- the primitive byte -/
def k17 : Class := { plain "byte" none with kind := .primitive 'B', accessFlags := 0x411 }
/-- [B -/
def k18 : Class := { plain "[B" (some 0) with kind := .array 17 .byte, interfaces := #[16, 2], accessFlags := 1041 }

/-- the primitive char -/
def k19 : Class := { plain "char" none with kind := .primitive 'C', accessFlags := 0x411 }
/-- [C -/
def k20 : Class := { plain "[C" (some 0) with kind := .array 19 .char, interfaces := #[16, 2], accessFlags := 1041 }

/-- the primitive int -/
def k21 : Class := { plain "int" none with kind := .primitive 'I', accessFlags := 0x411 }
/-- [I -/
def k22 : Class := { plain "[I" (some 0) with kind := .array 21 .int, interfaces := #[16, 2], accessFlags := 1041 }

def heap : Heap := #[{ cls := 7, slots := #[.long 0, .int 1, .null, .int 0, .null, .int 0, .int 0], vm := .statics 7 },
  { cls := 10, slots := #[.null, .null, .null], vm := .statics 10 }]
def classes : Array Class := #[k0, k1, k2, k3, k4, k5, k6, k7, k8, k9, k10, k11, k12, k13, k14, k15, k16, k17, k18, k19, k20, k21, k22]
def interned : List (Array UInt16 × Addr) := []
def slotsUsed : Nat := 10
def theMethod : MethodId := ⟨1, 1⟩
def args0 : Array Value := #[.int 3, .int 7]
def aboutOver (below : List Frame) : State where
  vm := { classes := classes, interned := interned.toArray }
  heap := heap
  slotsUsed := slotsUsed
  threads := #[{ frames := .invoking theMethod args0 :: below }]
def below0 : List Frame := [.native { method := ⟨0, 0⟩, args := #[] }]
def about1 : State := aboutOver below0
def p0 : Program := .bare "" "" ""
def e0 : Env := launch0.env 0 0 0
theorem w_frames : about1.frames = Frame.invoking theMethod args0 :: below0 := rfl
set_option maxRecDepth 65536 in
theorem w_args : argsFit about1.vm theMethod args0 = true := by decide +kernel
set_option maxRecDepth 65536 in
theorem w_heap : heapFits about1 = true := by decide +kernel
set_option maxRecDepth 65536 in
theorem w_runnable : about1.curStatus? = some .runnable := by decide +kernel
set_option maxRecDepth 65536 in
theorem w_alone : about1.alone = true := by decide +kernel
set_option maxRecDepth 65536 in
theorem w_named : about1.methodNamed? x = some theMethod := by decide +kernel
set_option maxRecDepth 65536 in
theorem w_hears : about1.hears theMethod below0 = true := by decide +kernel
set_option maxRecDepth 65536 in
theorem w_ripe : about1.ripe theMethod args0 below0 = true := by decide +kernel
theorem w_running : about1.status = .running := rfl
set_option maxRecDepth 65536 in
theorem w_room : about1.hasRoom e0.platform room_1 = true :=
  launch0.hasRoom_least _ room_1 (by decide +kernel) (by decide +kernel) (by decide +kernel) (by decide +kernel) (by decide +kernel) (by decide +kernel)
theorem allAtoms_all (ts : List Jvm.Cond) (a : Array Jvm.Value) (st : Jvm.State) : (allAtoms ts).before a st = ts.all (fun c => c.before a st) := by
  induction ts with
  | nil => rfl
  | cons c t ih =>
    show (Jvm.Cond.and c (allAtoms t)).before a st = _
    rw [Jvm.Cond.before_and, ih, List.all_cons]
def words1 : List Jvm.Cond := Jvm.Cond.code x code maxLocals ret :: tables_1
/-- a 'code' word, met by the world's own term for the bytes: nothing is compared byte by byte -/
theorem code_word {y : MethodName} {bytes : ByteArray} {mx : Nat} {rt : Option FieldType} {a : Array Value} {s : State} {m : MethodId} {meth : Method} {c : Code} (h1 : s.methodNamed? y = some m) (h2 : s.vm.method? m = some meth) (h3 : meth.code = some c) (h4 : c.code = bytes)
    (h5 : (c.maxLocals == mx && c.exceptionTable.isEmpty && decide (c.maxStack ≤ mostOperands) && decide (meth.sig.returnType = rt) && !meth.locks && decide (parseMethodDescriptor y.desc = some meth.sig)) = true) : (Jvm.Cond.code y bytes mx rt).before a s = true := by
  simp only [Bool.and_eq_true, beq_iff_eq, Bool.not_eq_true', decide_eq_true_eq] at h5
  obtain ⟨⟨⟨⟨⟨g1, g2⟩, g3⟩, g4⟩, g5⟩, g6⟩ := h5
  simp [Cond.before, Cond.holds, Cond.value, h1, h2, h3, h4, g1, g2, g3, g4, g5, g6]
def isCode : Jvm.Cond → Bool
  | .code _ _ _ _ => true
  | _ => false
theorem all_split {L : List Jvm.Cond} {P : Jvm.Cond → Bool} (h1 : L.all (fun c => isCode c || P c) = true) (h2 : ∀ c ∈ L.filter isCode, P c = true) : L.all P = true := by
  refine List.all_eq_true.mpr fun c hc => ?_
  have h := List.all_eq_true.mp h1 c hc
  rcases Bool.eq_false_or_eq_true (isCode c) with hi | hi
  · exact h2 c (List.mem_filter.mpr ⟨hc, hi⟩)
  · simpa [hi] using h
set_option maxRecDepth 65536 in
theorem w_c0 : (Jvm.Cond.code x code maxLocals ret).before args0 about1 = true := code_word (m := ⟨1, 1⟩) (meth := k1m1) (c := k1c1) (by decide +kernel) rfl rfl rfl (by decide +kernel)
set_option maxRecDepth 65536 in
theorem w_c1 : (Jvm.Cond.code ({ cls := "java/lang/String", name := "<init>", desc := "([C)V" } : Jvm.MethodName) jdk_42_method_3_code (2 : Nat) (Option.none : Option Jvm.ClassFile.FieldType)).before args0 about1 = true := code_word (m := ⟨7, 1⟩) (meth := k7m1) (c := k7c1) (by decide +kernel) rfl rfl rfl (by decide +kernel)
set_option maxRecDepth 65536 in
theorem w_c2 : (Jvm.Cond.code ({ cls := "java/lang/String", name := "<init>", desc := "([CIILjava/lang/Void;)V" } : Jvm.MethodName) jdk_42_method_149_code (6 : Nat) (Option.none : Option Jvm.ClassFile.FieldType)).before args0 about1 = true := code_word (m := ⟨7, 5⟩) (meth := k7m5) (c := k7c5) (by decide +kernel) rfl rfl rfl (by decide +kernel)
set_option maxRecDepth 65536 in
theorem w_c3 : (Jvm.Cond.code ({ cls := "java/lang/Object", name := "<init>", desc := "()V" } : Jvm.MethodName) object_method_1_code (1 : Nat) (Option.none : Option Jvm.ClassFile.FieldType)).before args0 about1 = true := code_word (m := ⟨0, 0⟩) (meth := k0m0) (c := k0c0) (by decide +kernel) rfl rfl rfl (by decide +kernel)
set_option maxRecDepth 65536 in
theorem w_c4 : (Jvm.Cond.code ({ cls := "java/lang/StringUTF16", name := "compress", desc := "([CII)[B" } : Jvm.MethodName) jdk_52_method_16_code (6 : Nat) (Option.some (Jvm.ClassFile.FieldType.array Jvm.ClassFile.FieldType.byte))).before args0 about1 = true := code_word (m := ⟨8, 2⟩) (meth := k8m2) (c := k8c2) (by decide +kernel) rfl rfl rfl (by decide +kernel)
set_option maxRecDepth 65536 in
theorem w_c5 : (Jvm.Cond.code ({ cls := "java/lang/StringUTF16", name := "compress", desc := "([CI[BII)I" } : Jvm.MethodName) jdk_52_method_21_code (7 : Nat) (Option.some Jvm.ClassFile.FieldType.int)).before args0 about1 = true := code_word (m := ⟨8, 3⟩) (meth := k8m3) (c := k8c3) (by decide +kernel) rfl rfl rfl (by decide +kernel)
set_option maxRecDepth 65536 in
theorem w_c6 : (Jvm.Cond.code ({ cls := "java/lang/StringUTF16", name := "coderFromArrayLen", desc := "([BI)B" } : Jvm.MethodName) jdk_52_method_15_code (2 : Nat) (Option.some Jvm.ClassFile.FieldType.byte)).before args0 about1 = true := code_word (m := ⟨8, 1⟩) (meth := k8m1) (c := k8c1) (by decide +kernel) rfl rfl rfl (by decide +kernel)
set_option maxRecDepth 65536 in
theorem w_c7 : (Jvm.Cond.code ({ cls := "com/example/cambio/cambio/io/MigrationFolder", name := "repeatableName", desc := "(Ljava/lang/String;)Ljava/lang/String;" } : Jvm.MethodName) prog_23_method_6_code (1 : Nat) (Option.some (Jvm.ClassFile.FieldType.object "java/lang/String"))).before args0 about1 = true := code_word (m := ⟨9, 0⟩) (meth := k9m0) (c := k9c0) (by decide +kernel) rfl rfl rfl (by decide +kernel)
set_option maxRecDepth 65536 in
theorem w_c8 : (Jvm.Cond.code ({ cls := "java/lang/String", name := "length", desc := "()I" } : Jvm.MethodName) jdk_42_method_54_code (1 : Nat) (Option.some Jvm.ClassFile.FieldType.int)).before args0 about1 = true := code_word (m := ⟨7, 2⟩) (meth := k7m2) (c := k7c2) (by decide +kernel) rfl rfl rfl (by decide +kernel)
set_option maxRecDepth 65536 in
theorem w_c9 : (Jvm.Cond.code ({ cls := "java/lang/String", name := "coder", desc := "()B" } : Jvm.MethodName) jdk_42_method_152_code (1 : Nat) (Option.some Jvm.ClassFile.FieldType.byte)).before args0 about1 = true := code_word (m := ⟨7, 7⟩) (meth := k7m7) (c := k7c7) (by decide +kernel) rfl rfl rfl (by decide +kernel)
set_option maxRecDepth 65536 in
theorem w_c10 : (Jvm.Cond.code ({ cls := "java/lang/String", name := "substring", desc := "(II)Ljava/lang/String;" } : Jvm.MethodName) jdk_42_method_92_code (5 : Nat) (Option.some (Jvm.ClassFile.FieldType.object "java/lang/String"))).before args0 about1 = true := code_word (m := ⟨7, 4⟩) (meth := k7m4) (c := k7c4) (by decide +kernel) rfl rfl rfl (by decide +kernel)
set_option maxRecDepth 65536 in
theorem w_c11 : (Jvm.Cond.code ({ cls := "java/lang/String", name := "checkBoundsBeginEnd", desc := "(III)V" } : Jvm.MethodName) jdk_42_method_158_code (3 : Nat) (Option.none : Option Jvm.ClassFile.FieldType)).before args0 about1 = true := code_word (m := ⟨7, 9⟩) (meth := k7m9) (c := k7c9) (by decide +kernel) rfl rfl rfl (by decide +kernel)
set_option maxRecDepth 65536 in
theorem w_c12 : (Jvm.Cond.code ({ cls := "jdk/internal/util/Preconditions", name := "checkFromToIndex", desc := "(IIILjava/util/function/BiFunction;)I" } : Jvm.MethodName) jdk_41_method_12_code (4 : Nat) (Option.some Jvm.ClassFile.FieldType.int)).before args0 about1 = true := code_word (m := ⟨10, 1⟩) (meth := k10m1) (c := k10c1) (by decide +kernel) rfl rfl rfl (by decide +kernel)
set_option maxRecDepth 65536 in
theorem w_c13 : (Jvm.Cond.code ({ cls := "java/lang/String", name := "isLatin1", desc := "()Z" } : Jvm.MethodName) jdk_42_method_154_code (1 : Nat) (Option.some Jvm.ClassFile.FieldType.boolean)).before args0 about1 = true := code_word (m := ⟨7, 8⟩) (meth := k7m8) (c := k7c8) (by decide +kernel) rfl rfl rfl (by decide +kernel)
set_option maxRecDepth 65536 in
theorem w_c14 : (Jvm.Cond.code ({ cls := "java/lang/StringLatin1", name := "newString", desc := "([BII)Ljava/lang/String;" } : Jvm.MethodName) jdk_43_method_47_code (3 : Nat) (Option.some (Jvm.ClassFile.FieldType.object "java/lang/String"))).before args0 about1 = true := code_word (m := ⟨11, 2⟩) (meth := k11m2) (c := k11c2) (by decide +kernel) rfl rfl rfl (by decide +kernel)
set_option maxRecDepth 65536 in
theorem w_c15 : (Jvm.Cond.code ({ cls := "java/lang/String", name := "equals", desc := "(Ljava/lang/Object;)Z" } : Jvm.MethodName) jdk_42_method_66_code (3 : Nat) (Option.some Jvm.ClassFile.FieldType.boolean)).before args0 about1 = true := code_word (m := ⟨7, 3⟩) (meth := k7m3) (c := k7c3) (by decide +kernel) rfl rfl rfl (by decide +kernel)
set_option maxRecDepth 65536 in
theorem w_c16 : (Jvm.Cond.code ({ cls := "java/lang/StringLatin1", name := "equals", desc := "([B[B)Z" } : Jvm.MethodName) jdk_43_method_13_code (3 : Nat) (Option.some Jvm.ClassFile.FieldType.boolean)).before args0 about1 = true := code_word (m := ⟨11, 1⟩) (meth := k11m1) (c := k11c1) (by decide +kernel) rfl rfl rfl (by decide +kernel)
set_option maxRecDepth 65536 in
theorem w_c17 : (Jvm.Cond.code ({ cls := "java/util/Arrays", name := "copyOfRange", desc := "([BII)[B" } : Jvm.MethodName) jdk_65_method_132_code (3 : Nat) (Option.some (Jvm.ClassFile.FieldType.array Jvm.ClassFile.FieldType.byte))).before args0 about1 = true := code_word (m := ⟨12, 2⟩) (meth := k12m2) (c := k12c2) (by decide +kernel) rfl rfl rfl (by decide +kernel)
set_option maxRecDepth 65536 in
theorem w_c18 : (Jvm.Cond.code ({ cls := "java/util/Arrays", name := "copyOfRangeByte", desc := "([BII)[B" } : Jvm.MethodName) jdk_65_method_133_code (5 : Nat) (Option.some (Jvm.ClassFile.FieldType.array Jvm.ClassFile.FieldType.byte))).before args0 about1 = true := code_word (m := ⟨12, 3⟩) (meth := k12m3) (c := k12c3) (by decide +kernel) rfl rfl rfl (by decide +kernel)
set_option maxRecDepth 65536 in
theorem w_c19 : (Jvm.Cond.code ({ cls := "java/util/Arrays", name := "checkLength", desc := "(II)V" } : Jvm.MethodName) jdk_65_method_131_code (2 : Nat) (Option.none : Option Jvm.ClassFile.FieldType)).before args0 about1 = true := code_word (m := ⟨12, 1⟩) (meth := k12m1) (c := k12c1) (by decide +kernel) rfl rfl rfl (by decide +kernel)
set_option maxRecDepth 65536 in
theorem w_c20 : (Jvm.Cond.code ({ cls := "java/lang/Math", name := "min", desc := "(II)I" } : Jvm.MethodName) jdk_29_method_69_code (2 : Nat) (Option.some Jvm.ClassFile.FieldType.int)).before args0 about1 = true := code_word (m := ⟨13, 1⟩) (meth := k13m1) (c := k13c1) (by decide +kernel) rfl rfl rfl (by decide +kernel)
set_option maxRecDepth 65536 in
theorem w_c21 : (Jvm.Cond.code ({ cls := "java/lang/String", name := "<init>", desc := "([BB)V" } : Jvm.MethodName) jdk_42_method_151_code (3 : Nat) (Option.none : Option Jvm.ClassFile.FieldType)).before args0 about1 = true := code_word (m := ⟨7, 6⟩) (meth := k7m6) (c := k7c6) (by decide +kernel) rfl rfl rfl (by decide +kernel)
def codes1 : List Jvm.Cond := [Jvm.Cond.code x code maxLocals ret, Jvm.Cond.code ({ cls := "java/lang/String", name := "<init>", desc := "([C)V" } : Jvm.MethodName) jdk_42_method_3_code (2 : Nat) (Option.none : Option Jvm.ClassFile.FieldType), Jvm.Cond.code ({ cls := "java/lang/String", name := "<init>", desc := "([CIILjava/lang/Void;)V" } : Jvm.MethodName) jdk_42_method_149_code (6 : Nat) (Option.none : Option Jvm.ClassFile.FieldType), Jvm.Cond.code ({ cls := "java/lang/Object", name := "<init>", desc := "()V" } : Jvm.MethodName) object_method_1_code (1 : Nat) (Option.none : Option Jvm.ClassFile.FieldType), Jvm.Cond.code ({ cls := "java/lang/StringUTF16", name := "compress", desc := "([CII)[B" } : Jvm.MethodName) jdk_52_method_16_code (6 : Nat) (Option.some (Jvm.ClassFile.FieldType.array Jvm.ClassFile.FieldType.byte)), Jvm.Cond.code ({ cls := "java/lang/StringUTF16", name := "compress", desc := "([CI[BII)I" } : Jvm.MethodName) jdk_52_method_21_code (7 : Nat) (Option.some Jvm.ClassFile.FieldType.int), Jvm.Cond.code ({ cls := "java/lang/StringUTF16", name := "coderFromArrayLen", desc := "([BI)B" } : Jvm.MethodName) jdk_52_method_15_code (2 : Nat) (Option.some Jvm.ClassFile.FieldType.byte), Jvm.Cond.code ({ cls := "com/example/cambio/cambio/io/MigrationFolder", name := "repeatableName", desc := "(Ljava/lang/String;)Ljava/lang/String;" } : Jvm.MethodName) prog_23_method_6_code (1 : Nat) (Option.some (Jvm.ClassFile.FieldType.object "java/lang/String")), Jvm.Cond.code ({ cls := "java/lang/String", name := "length", desc := "()I" } : Jvm.MethodName) jdk_42_method_54_code (1 : Nat) (Option.some Jvm.ClassFile.FieldType.int), Jvm.Cond.code ({ cls := "java/lang/String", name := "coder", desc := "()B" } : Jvm.MethodName) jdk_42_method_152_code (1 : Nat) (Option.some Jvm.ClassFile.FieldType.byte), Jvm.Cond.code ({ cls := "java/lang/String", name := "substring", desc := "(II)Ljava/lang/String;" } : Jvm.MethodName) jdk_42_method_92_code (5 : Nat) (Option.some (Jvm.ClassFile.FieldType.object "java/lang/String")), Jvm.Cond.code ({ cls := "java/lang/String", name := "checkBoundsBeginEnd", desc := "(III)V" } : Jvm.MethodName) jdk_42_method_158_code (3 : Nat) (Option.none : Option Jvm.ClassFile.FieldType), Jvm.Cond.code ({ cls := "jdk/internal/util/Preconditions", name := "checkFromToIndex", desc := "(IIILjava/util/function/BiFunction;)I" } : Jvm.MethodName) jdk_41_method_12_code (4 : Nat) (Option.some Jvm.ClassFile.FieldType.int), Jvm.Cond.code ({ cls := "java/lang/String", name := "isLatin1", desc := "()Z" } : Jvm.MethodName) jdk_42_method_154_code (1 : Nat) (Option.some Jvm.ClassFile.FieldType.boolean), Jvm.Cond.code ({ cls := "java/lang/StringLatin1", name := "newString", desc := "([BII)Ljava/lang/String;" } : Jvm.MethodName) jdk_43_method_47_code (3 : Nat) (Option.some (Jvm.ClassFile.FieldType.object "java/lang/String")), Jvm.Cond.code ({ cls := "java/lang/String", name := "equals", desc := "(Ljava/lang/Object;)Z" } : Jvm.MethodName) jdk_42_method_66_code (3 : Nat) (Option.some Jvm.ClassFile.FieldType.boolean), Jvm.Cond.code ({ cls := "java/lang/StringLatin1", name := "equals", desc := "([B[B)Z" } : Jvm.MethodName) jdk_43_method_13_code (3 : Nat) (Option.some Jvm.ClassFile.FieldType.boolean), Jvm.Cond.code ({ cls := "java/util/Arrays", name := "copyOfRange", desc := "([BII)[B" } : Jvm.MethodName) jdk_65_method_132_code (3 : Nat) (Option.some (Jvm.ClassFile.FieldType.array Jvm.ClassFile.FieldType.byte)), Jvm.Cond.code ({ cls := "java/util/Arrays", name := "copyOfRangeByte", desc := "([BII)[B" } : Jvm.MethodName) jdk_65_method_133_code (5 : Nat) (Option.some (Jvm.ClassFile.FieldType.array Jvm.ClassFile.FieldType.byte)), Jvm.Cond.code ({ cls := "java/util/Arrays", name := "checkLength", desc := "(II)V" } : Jvm.MethodName) jdk_65_method_131_code (2 : Nat) (Option.none : Option Jvm.ClassFile.FieldType), Jvm.Cond.code ({ cls := "java/lang/Math", name := "min", desc := "(II)I" } : Jvm.MethodName) jdk_29_method_69_code (2 : Nat) (Option.some Jvm.ClassFile.FieldType.int), Jvm.Cond.code ({ cls := "java/lang/String", name := "<init>", desc := "([BB)V" } : Jvm.MethodName) jdk_42_method_151_code (3 : Nat) (Option.none : Option Jvm.ClassFile.FieldType)]
set_option maxRecDepth 65536 in
theorem codes_eq : words1.filter isCode = codes1 := rfl
theorem w_codes : ∀ c ∈ words1.filter isCode, c.before args0 about1 = true := by
  rw [codes_eq]
  intro c hc
  simp only [codes1, List.mem_cons, List.not_mem_nil, or_false] at hc
  rcases hc with rfl | rfl | rfl | rfl | rfl | rfl | rfl | rfl | rfl | rfl | rfl | rfl | rfl | rfl | rfl | rfl | rfl | rfl | rfl | rfl | rfl | rfl
  · exact w_c0
  · exact w_c1
  · exact w_c2
  · exact w_c3
  · exact w_c4
  · exact w_c5
  · exact w_c6
  · exact w_c7
  · exact w_c8
  · exact w_c9
  · exact w_c10
  · exact w_c11
  · exact w_c12
  · exact w_c13
  · exact w_c14
  · exact w_c15
  · exact w_c16
  · exact w_c17
  · exact w_c18
  · exact w_c19
  · exact w_c20
  · exact w_c21
set_option maxRecDepth 65536 in
theorem w_t1 : (words1.take 24).all (fun c => isCode c || c.before args0 about1) = true := by decide +kernel
set_option maxRecDepth 65536 in
theorem w_t2 : ((words1.drop 24).take 24).all (fun c => isCode c || c.before args0 about1) = true := by decide +kernel
set_option maxRecDepth 65536 in
theorem w_t3 : (((words1.drop 24).drop 24).take 24).all (fun c => isCode c || c.before args0 about1) = true := by decide +kernel
set_option maxRecDepth 65536 in
theorem w_t4 : ((((words1.drop 24).drop 24).drop 24).take 24).all (fun c => isCode c || c.before args0 about1) = true := by decide +kernel
set_option maxRecDepth 65536 in
theorem w_t5 : ((((words1.drop 24).drop 24).drop 24).drop 24).all (fun c => isCode c || c.before args0 about1) = true := by decide +kernel
theorem w_tables : (allAtoms (Jvm.Cond.code x code maxLocals ret :: tables_1)).before args0 about1 = true := by
  rw [allAtoms_all]
  show words1.all (fun c => c.before args0 about1) = true
  refine all_split ?_ w_codes
  rw [← List.take_append_drop 24 words1, List.all_append, w_t1, ← List.take_append_drop 24 (words1.drop 24), List.all_append, w_t2, ← List.take_append_drop 24 ((words1.drop 24).drop 24), List.all_append, w_t3, ← List.take_append_drop 24 (((words1.drop 24).drop 24).drop 24), List.all_append, w_t4, w_t5]
  rfl
set_option maxRecDepth 65536 in
theorem w_rest : rest_1_c.before args0 about1 = true := by decide +kernel
set_option maxRecDepth 65536 in
theorem w_case : (Jvm.Cond.and given_1 narrow_1).before args0 about1 = true := by decide +kernel
set_option maxRecDepth 65536 in
theorem w_consts : constsHeld consts_1 about1 := Jvm.Lit.constsHeldB_iff.mp (by decide +kernel)
theorem w_applies : (headSpec (Jvm.Cond.code x code maxLocals ret :: tables_1) room_1).applies x e0.platform about1 = true :=
  (Spec.applies_iff w_frames).mpr ⟨w_running, w_runnable, w_alone, w_named, w_hears, w_ripe, w_room, w_tables⟩
theorem atStart : AtStart classFile x code maxLocals ret World_1 tables_1 room_1 Calls_1 rest_1 Pre_1 launch0 p0 e0 about1 theMethod args0 below0 :=
  ⟨lists_1, trivial, launch0.admits_env _ _ _, launch0.least_env, fairChoices_fair.cas, fairChoices_fair.clock, w_frames, w_args, w_heap, w_applies, ⟨w_consts, trivial⟩, w_rest, w_case⟩
end start1
theorem witness_1 : WitnessClaimed_1 := ⟨start1.p0, start1.e0, start1.about1, start1.theMethod, start1.args0, start1.below0, start1.atStart⟩
end Jvm.Pilot.@@N@@
