import JvmDerived
import JvmDerived.Pilot.@@N@@Statement
import JvmDerived.Pilot.@@N@@Code
set_option linter.unusedVariables false
set_option linter.unusedSimpArgs false
namespace Jvm.RoadKit
open Sem ClassFile Op Lib Jvm.Stand Jvm.Free Jvm.LawKit
section New
variable {p : Program} {l : Launch} {e : Env} {R : Room} {s : State} {m : MethodId} {args : Array Value} {below : List Frame} {meth : Method} {c : Code} {T : State} {locs : List Loc} {cells slots : Nat}
theorem retI (X : Stand p l e R s m args below meth c T locs cells slots) (hx : p.tables.exec = Jvm.exec) {pc : Nat} {Ls : Array Slot} {z : Int32} {rest : List Value} (hret : meth.sig.returnType = some .int) (hd : decode c.code pc = .ok (.ireturn, 1)) {fs : List Frame}
    (hl : ∀ (f : JFrame) (acts : List Action), f.method = m → f.locked = none → f.entered = [] → (doReturn e (T.setTop f) acts (some (.int z))).1 = T.setFrames fs) : Steps p.tables e below (T.setTop (mkF m pc Ls (.int z :: rest))) (T.setFrames fs) := by
  have hm' : T.vm.method? m = some meth := X.method'
  have hn : narrow .int (.int z) = .int z := rfl
  show Steps p.tables e below (T.setTop { method := m, pc := pc, locals := Ls, stack := _ :: rest, locked := none }) _
  jvm_step X.here [X.here.top, hx, hd, hm', hret, hn]
  first | (intro acts; rw [hl _ acts rfl rfl rfl]) | rw [hl _ _ rfl rfl rfl]
  exact Steps.refl _
end New
end Jvm.RoadKit
namespace Jvm.Pilot.@@N@@
open Jvm Jvm.ClassFile Sem Op Lib Jvm.Free Jvm.Stand Jvm.LawKit Jvm.RoadKit Bundle Jvm.Pilot.@@N@@.Jvm.D
section OwnKit
variable {p : Program} {l : Launch} {e : Env} {R : Room} {s : State} {m : MethodId} {args : Array Value} {below : List Frame} {meth : Method} {c : Code} {T S0 Z : State} {locs : List Loc} {cells slots : Nat} {a0 : Array Value} {h h0 : Heap} {own C : String} {index count : Nat} {y z : MethodName} {bytes : ByteArray} {mx : Nat} {rt : Option FieldType} {rm : Room} {as : Array Value} {Φ : Option Value → Heap → Prop}
/-- what a body leaves: it wrote in new cells alone; Φ of what it returns and of the heap -/
def own_Q (Z : State) (Φ : Option Value → Heap → Prop) (v : Option Value) (h : Heap) (L : List Loc) : Prop := Fr Z.heap.size L ∧ Φ v h
/-- the narrow contract (nothing is interned) -/
def own_NC (l : Launch) (Z : State) (y : MethodName) (bytes : ByteArray) (mx : Nat) (rt : Option FieldType) (rm : Room) (as : Array Value) (h0 : Heap) (Φ : Option Value → Heap → Prop) : Prop :=
  MetFree l y (head1 [Jvm.Cond.code y bytes mx rt] rm) (fun a U => a = as ∧ Z.Warmed39 U.vm ∧ U.heap = h0) (fun _ _ _ _ _ => True) (fun _ U o U' => ∃ v L, o = .returned v ∧ own_Q Z Φ v U'.heap L ∧ FrameEnd U o U' L rm.cells rm.slots)
/-- what a walk of the body has to show -/
def own_NW (l : Launch) (Z : State) (y : MethodName) (bytes : ByteArray) (mx : Nat) (rt : Option FieldType) (rm : Room) (as : Array Value) (h0 : Heap) (Φ : Option Value → Heap → Prop) : Prop :=
  ∀ (p : Program) (e : Env) (s : State) (m : MethodId) (below : List Frame) (meth : Method) (c : Code) (s₁ S0 : State), Stand p l e rm s m as below meth c s₁ [] 0 0 → p.tables.exec = Jvm.exec → c.code = bytes → c.maxLocals = mx → meth.sig.returnType = rt → meth.name = y.name → s.vm.findClass y.cls = some m.cls → Z.Warmed39 s.vm → s₁.heap = h0 →
    Steps p.tables e below S0 (s₁.setTop (entryFrame m as mx)) →
    ∃ (T : State) (v : Option Value) (locs : List Loc) (cells slots : Nat), Stand p l e rm s m as below meth c T locs cells slots ∧ cells ≤ rm.cells ∧ slots ≤ rm.slots ∧ (rt = none → v = none) ∧ Fr Z.heap.size locs ∧ Φ v T.heap ∧
      ∀ fs, (∀ (f : JFrame) (acts : List Action), f.method = m → f.locked = none → f.entered = [] → (doReturn e (T.setTop f) acts v).1 = T.setFrames fs) → Steps p.tables e below S0 (T.setFrames fs)
theorem own_met {ws : List Jvm.Cond} (hx : plainFor y = true) (walk : own_NW l Z y bytes mx rt rm as h0 Φ) :
    MetFree l y (head1 (Jvm.Cond.code y bytes mx rt :: ws) rm) (fun a U => a = as ∧ Z.Warmed39 U.vm ∧ U.heap = h0) (fun _ _ _ _ _ => True) (fun _ U o U' => ∃ v L, o = .returned v ∧ own_Q Z Φ v U'.heap L ∧ FrameEnd U o U' L rm.cells rm.slots) := by
  refine MetFree.of_bodySF hx hisR ?_
  intro p e s m args below meth c s₁ Bd hml0 hP hK
  obtain ⟨rfl, hZ, hh⟩ := hP
  obtain ⟨T, v, locs, cells, slots, X, hc, hs, hv, hN, hΦ, st⟩ := walk p e s m below meth c s₁ _ (Stand.of_body Bd) Bd.exec Bd.bytes hml0 Bd.returns (name_of_methodNamed Bd.named Bd.method).1 (findClass_of_methodNamed Bd.named) hZ (by rw [← hh, Bd.state]; rfl) (Steps.refl _)
  obtain ⟨fs, hr, hrun, hended, hW, hsame⟩ := X.leave (v := v) (fun q => hv (by rw [← Bd.returns]; exact q))
  exact ⟨_, _, st fs hr, hrun, hended, _, _, rfl, ⟨hN, hΦ⟩, ⟨_, rfl⟩, hW, hsame.mono hc hs⟩
theorem own_nc (hx : plainFor y = true) (walk : own_NW l Z y bytes mx rt rm as h0 Φ) : own_NC l Z y bytes mx rt rm as h0 Φ := own_met hx walk
theorem own_NC.imp {Ψ : Option Value → Heap → Prop} (H : own_NC l Z y bytes mx rt rm as h0 Φ) (q : ∀ v h, Φ v h → Ψ v h) : own_NC l Z y bytes mx rt rm as h0 Ψ := by
  intro p e ha hc hk s m args below hf happ hP hK
  obtain ⟨n, o, h1, h2, h3, v, L, rfl, ⟨hN, hΦ⟩, hq⟩ := H p e ha hc hk s m args below hf happ hP hK
  exact ⟨n, _, h1, h2, h3, v, L, rfl, ⟨hN, q _ _ hΦ⟩, hq⟩
/-- a payer of the standing shape -/
abbrev own_Pay (l : Launch) (R : Room) (p : Program) (e : Env) (below : List Frame) (s : State) (args : Array Value) (y : MethodName) (len W : Nat) (as : Array Value) (h : Heap) (kc ks : Nat) (Q : Option Value → Heap → List Loc → Prop) : Prop :=
  Back l R p e below s args y len W (fun P a => a = as ∧ P.U.heap = h ∧ P.cells + kc ≤ R.cells ∧ P.slots + ks ≤ R.slots) (fun P _ v B => ∃ L, Q v B.U.heap L ∧ B.locs = P.locs ++ L ∧ B.cells = P.cells + kc ∧ B.slots = P.slots + ks)
theorem own_pay {len W : Nat} (H : own_NC l Z y bytes mx rt rm as h Φ) (hZ : Z.Warmed39 s.vm) (wc : (Cond.code y bytes mx rt).before a0 Z = true) (wz : (Cond.initialized y.cls).before a0 Z = true) (hf : rm.frames + 1 ≤ R.frames) (hl : W + (mx + 11) + rm.locals ≤ R.locals) :
    own_Pay l R p e below s args y len W as h rm.cells rm.slots (own_Q Z Φ) := backOf H hZ wc wz hf hl
variable {W kc ks : Nat} {Q : Option Value → Heap → List Loc → Prop} {g : JFrame} {argsL rest : List Value} {b : Addr}
theorem own_stat (X : Stand p l e R s m args below meth c T locs cells slots) (hx : p.tables.exec = Jvm.exec) (hml : c.maxLocals = mx) (hZ : Z.Warmed39 s.vm) (hown : s.vm.findClass own = some m.cls) {bytes' : ByteArray} {mx' : Nat} {rt' : Option FieldType}
    (w1 : (Cond.methodLink own index y).before a0 Z = true) (w2 : (Cond.static y).before a0 Z = true) (w3 : (Cond.initialized y.cls).before a0 Z = true) (w4 : (Cond.code y bytes' mx' rt').before a0 Z = true) (hy : y.cls ≠ "java/lang/invoke/MethodHandle" ∧ y.cls ≠ "java/lang/invoke/VarHandle")
    (hK : own_Pay l R p e below s args y 3 W argsL.toArray h kc ks Q) (cm : Steps p.tables e below S0 (T.setTop g)) (hlen : ∀ sig, parseMethodDescriptor y.desc = some sig → argsL.length = sig.parameters.length) (hst : g.stack = argsL.reverse ++ rest) (hd : decode c.code g.pc = .ok (.invokestatic index, 3)) (eT : T.heap = h) (hc : cells + kc ≤ R.cells := by decide) (hs : slots + ks ≤ R.slots := by decide) (hg : g.method = m := by rfl) (hsz : g.locals.size = mx := by rfl) (hW : 2 * g.monitorRoom + (rest.map fun v => v.category).sum ≤ W := by show 2 * 0 + _ ≤ _; exact Nat.le_of_eq rfl) :
    ∃ (v : Option Value) (T' : State) (L : List Loc), Stand p l e R s m args below meth c T' (locs ++ L) (cells + kc) (slots + ks) ∧ Q v T'.heap L ∧ Steps p.tables e below S0 (T'.setTop { g with pc := g.pc + 3, stack := v.toList ++ rest }) := by
  obtain ⟨v, _, ⟨T', L', k', n'⟩, -, X', ⟨L, hQ, l1, l2, l3⟩, st⟩ := Jvm.LawKit.callS X hx (y := y) hown (mvT hZ w1) (mvT hZ w2) (mvT hZ w3) (mvT hZ w4) hy hK hg (by rw [hml]; exact hsz) (argsL := argsL) (rest := rest) hlen hst hW hd (fun _ _ => ⟨rfl, eT, hc, hs⟩)
  dsimp only [Pt.U, Pt.locs, Pt.cells, Pt.slots] at X' l1 l2 l3 st hQ
  subst l1 l2 l3
  exact ⟨v, T', L, X', hQ, cm.trans (st _ (Steps.refl _))⟩
theorem own_spec (X : Stand p l e R s m args below meth c T locs cells slots) (hx : p.tables.exec = Jvm.exec) (hml : c.maxLocals = mx) (hZ : Z.Warmed39 s.vm) (hown : s.vm.findClass own = some m.cls) {bytes' : ByteArray} {mx' : Nat} (hy1 : y.name = "<init>")
    (w1 : (Cond.methodLink own index y).before a0 Z = true) (w2 : (Cond.instanceMethod y).before a0 Z = true) (w4 : (Cond.code y bytes' mx' none).before a0 Z = true) (hy : y.cls ≠ "java/lang/invoke/MethodHandle" ∧ y.cls ≠ "java/lang/invoke/VarHandle")
    (hK : own_Pay l R p e below s args y 3 W (.ref b :: argsL).toArray h kc ks Q) (cm : Steps p.tables e below S0 (T.setTop g)) (hlen : ∀ sig, parseMethodDescriptor y.desc = some sig → argsL.length = sig.parameters.length) (hst : g.stack = argsL.reverse ++ .ref b :: rest) (hd : decode c.code g.pc = .ok (.invokespecial index, 3)) (eT : T.heap = h) (hc : cells + kc ≤ R.cells := by decide) (hs : slots + ks ≤ R.slots := by decide) (hg : g.method = m := by rfl) (hsz : g.locals.size = mx := by rfl) (hW : 2 * g.monitorRoom + (rest.map fun v => v.category).sum ≤ W := by show 2 * 0 + _ ≤ _; exact Nat.le_of_eq rfl) :
    ∃ (v : Option Value) (T' : State) (L : List Loc), Stand p l e R s m args below meth c T' (locs ++ L) (cells + kc) (slots + ks) ∧ Q v T'.heap L ∧ Steps p.tables e below S0 (T'.setTop { g with pc := g.pc + 3, stack := v.toList ++ rest }) := by
  obtain ⟨v, _, ⟨T', L', k', n'⟩, -, X', ⟨L, hQ, l1, l2, l3⟩, st⟩ := X.specialBack hx (y := y) hy1 hown (mvT hZ w1) (mvT hZ w2) (mvT hZ w4) hy hK hg (by rw [hml]; exact hsz) cm (a := b) (argsL := argsL) (rest := rest) hlen hst hW hd (fun _ _ => ⟨rfl, eT, hc, hs⟩)
  dsimp only [Pt.U, Pt.locs, Pt.cells, Pt.slots] at X' l1 l2 l3 st hQ
  subst l1 l2 l3
  exact ⟨v, T', L, X', hQ, st⟩
theorem own_virt (X : Stand p l e R s m args below meth c T locs cells slots) (hx : p.tables.exec = Jvm.exec) (hml : c.maxLocals = mx) (hZ : Z.Warmed39 s.vm) (hown : s.vm.findClass own = some m.cls)
    (w1 : (Cond.methodLink own index y).before a0 Z = true) (w2 : (Cond.declares y).before a0 Z = true) (w3 : (Cond.selects C y z).before a0 Z = true) (w4 : (Cond.instanceMethod z).before a0 Z = true) {Dn : String} (w5 : (Cond.selects Dn y y).before a0 Z = true) (hy : y.cls ≠ "java/lang/invoke/MethodHandle" ∧ y.cls ≠ "java/lang/invoke/VarHandle")
    (hK : own_Pay l R p e below s args z 3 W (.ref b :: argsL).toArray h kc ks Q) (E : Exa Z h b C) (cm : Steps p.tables e below S0 (T.setTop g)) (hlen : ∀ sig, parseMethodDescriptor y.desc = some sig → argsL.length = sig.parameters.length) (hst : g.stack = argsL.reverse ++ .ref b :: rest) (hd : decode c.code g.pc = .ok (.invokevirtual index, 3)) (eT : T.heap = h) (hc : cells + kc ≤ R.cells := by decide) (hs : slots + ks ≤ R.slots := by decide) (hg : g.method = m := by rfl) (hsz : g.locals.size = mx := by rfl) (hW : 2 * g.monitorRoom + (rest.map fun v => v.category).sum ≤ W := by show 2 * 0 + _ ≤ _; exact Nat.le_of_eq rfl) :
    ∃ (v : Option Value) (T' : State) (L : List Loc), Stand p l e R s m args below meth c T' (locs ++ L) (cells + kc) (slots + ks) ∧ Q v T'.heap L ∧ Steps p.tables e below S0 (T'.setTop { g with pc := g.pc + 3, stack := v.toList ++ rest }) := by
  obtain ⟨cq, kq, qa, qb, qc⟩ := isOf hZ eT E
  obtain ⟨v, _, ⟨T', L', k', n'⟩, -, X', ⟨L, hQ, l1, l2, l3⟩, st⟩ := X.virtualBack hx (y := y) (z := z) hown (mvT hZ w1) (mvT hZ w2) (notFace_of_selects (args := #[]) (mvT hZ w5)) (mvT hZ w3) (mvT hZ w4) hy hK qa qc hg (by rw [hml]; exact hsz) cm (argsL := argsL) (rest := rest) hlen hst hW hd (fun _ _ => ⟨rfl, eT, hc, hs⟩)
  dsimp only [Pt.U, Pt.locs, Pt.cells, Pt.slots] at X' l1 l2 l3 st hQ
  subst l1 l2 l3
  exact ⟨v, T', L, X', hQ, st⟩
theorem own_face (X : Stand p l e R s m args below meth c T locs cells slots) (hx : p.tables.exec = Jvm.exec) (hml : c.maxLocals = mx) (hZ : Z.Warmed39 s.vm) (hown : s.vm.findClass own = some m.cls)
    (w1 : (Cond.methodLink own index y).before a0 Z = true) (w2 : (Cond.declares y).before a0 Z = true) (w3 : (Cond.interfaceMethod y.cls y.cls y.name y.desc).before args s = true) (w4 : (Cond.selects C y z).before a0 Z = true) (w5 : (Cond.instanceMethod z).before a0 Z = true) (w6 : (Cond.publicMethod z).before a0 Z = true) (w7 : (Cond.unhidden C y.name y.desc).before a0 Z = true) (w8 : (Cond.castable C y.cls).before a0 Z = true) (hy : y.cls ≠ "java/lang/invoke/MethodHandle" ∧ y.cls ≠ "java/lang/invoke/VarHandle")
    (hK : own_Pay l R p e below s args z 5 W (.ref b :: argsL).toArray h kc ks Q) (E : Exa Z h b C) (cm : Steps p.tables e below S0 (T.setTop g)) (hlen : ∀ sig, parseMethodDescriptor y.desc = some sig → argsL.length = sig.parameters.length) (hst : g.stack = argsL.reverse ++ .ref b :: rest) (hd : decode c.code g.pc = .ok (.invokeinterface index count, 5)) (eT : T.heap = h) (hc : cells + kc ≤ R.cells := by decide) (hs : slots + ks ≤ R.slots := by decide) (hg : g.method = m := by rfl) (hsz : g.locals.size = mx := by rfl) (hW : 2 * g.monitorRoom + (rest.map fun v => v.category).sum ≤ W := by show 2 * 0 + _ ≤ _; exact Nat.le_of_eq rfl) :
    ∃ (v : Option Value) (T' : State) (L : List Loc), Stand p l e R s m args below meth c T' (locs ++ L) (cells + kc) (slots + ks) ∧ Q v T'.heap L ∧ Steps p.tables e below S0 (T'.setTop { g with pc := g.pc + 5, stack := v.toList ++ rest }) := by
  obtain ⟨cq, kq, qa, qb, qc⟩ := isOf hZ eT E
  obtain ⟨v, _, ⟨T', L', k', n'⟩, -, X', ⟨L, hQ, l1, l2, l3⟩, st⟩ := X.interfaceBack hx (xi := y) (y := z) hown (mvT hZ w1) (mvT hZ w2) w3 (mvT hZ w4) (mvT hZ w5) (mvT hZ w6) (mvT hZ w7) (mvT hZ w8) hy hK qa qb qc hg (by rw [hml]; exact hsz) cm (argsL := argsL) (rest := rest) hlen hst hW hd (fun _ _ => ⟨rfl, eT, hc, hs⟩)
  dsimp only [Pt.U, Pt.locs, Pt.cells, Pt.slots] at X' l1 l2 l3 st hQ
  subst l1 l2 l3
  exact ⟨v, T', L, X', hQ, st⟩
/-- for the sizes alone -/
theorem own_kz {h1 h2 h3 : Heap} {w1 w2 : List Addr} (K : Keep h1 h2 w1) (K' : Keep h2 h3 w2) : Keep h1 h3 (w1 ++ w2) := by
  refine ⟨Nat.le_trans K.1 K'.1, fun x c q r => K'.2.1 x c (K.2.1 x c q fun z => r (List.mem_append_left _ z)) fun z => r (List.mem_append_right _ z), fun x c q => ?_⟩
  obtain ⟨c1, q1, r1, r2, r3⟩ := K.2.2 x c q
  obtain ⟨c2, q2, t1, t2, t3⟩ := K'.2.2 x c1 q1
  exact ⟨c2, q2, t1.trans r1, t2.trans r2, t3.trans r3⟩
/-- what is returned: a reference -/
theorem own_retR (X : Stand p l e R s m args below meth c T locs cells slots) (hx : p.tables.exec = Jvm.exec) {pc : Nat} {Ls : Array Slot} {w : Value} {t : FieldType} {rest : List Value} (cm : Steps p.tables e below S0 (T.setTop (mkF m pc Ls (w :: rest)))) (hret : meth.sig.returnType = some t) (ht : t.isReference = true) (hw : w.isRef = true) (hd : decode c.code pc = .ok (.areturn, 1)) {fs : List Frame} (hl : ∀ (f : JFrame) (acts : List Action), f.method = m → f.locked = none → f.entered = [] → (doReturn e (T.setTop f) acts (some w)).1 = T.setFrames fs) : Steps p.tables e below S0 (T.setFrames fs) :=
  cm.trans (retOut X hx hret (by cases t <;> first | rfl | cases ht) (Or.inr (Or.inr (Or.inr (Or.inr ⟨rfl, ht, hw⟩)))) hd hl)
end OwnKit
end Jvm.Pilot.@@N@@
namespace Jvm.Pilot.@@N@@
open Jvm Jvm.ClassFile Sem Op Lib Jvm.Free Jvm.Stand Jvm.LawKit Jvm.RoadKit Bundle Jvm.Pilot.@@N@@.Jvm.D
section OwnWide
variable {p : Program} {l : Launch} {e : Env} {R : Room} {s : State} {m : MethodId} {args : Array Value} {below : List Frame} {meth : Method} {c : Code} {T S0 Z : State} {locs : List Loc} {cells slots : Nat} {a0 : Array Value} {h h0 : Heap} {own C : String} {index count : Nat} {y z : MethodName} {bytes : ByteArray} {mx : Nat} {rt : Option FieldType} {rm : Room} {as : Array Value} {Φ : Option Value → Heap → Prop} {EL : List (String × Nat)} {sf : List Addr} {vm0 : Vm}
/-- the wide contract: String constants may be resolved and interned meanwhile; sf: objects handed in that no held constant is -/
def own_WC (l : Launch) (Z : State) (EL : List (String × Nat)) (y : MethodName) (bytes : ByteArray) (mx : Nat) (rt : Option FieldType) (rm : Room) (as : Array Value) (h0 : Heap) (sf : List Addr) (Φ : Option Value → Heap → Prop) : Prop :=
  MetFree l y (head1 [Jvm.Cond.code y bytes mx rt] rm) (fun a U => a = as ∧ Z.Warmed39 U.vm ∧ U.heap = h0 ∧ CHv Z EL U.vm h0 ∧ ∀ x ∈ sf, Safe Z EL U.vm h0 x) (fun _ _ _ _ _ => True) (fun _ U o U' => ∃ v L, o = .returned v ∧ own_Q Z Φ v U'.heap L ∧ CHr Z EL U.vm U.heap U'.vm U'.heap ∧ ReturnedEndW U o U' L rm.cells rm.slots)
def own_WW (l : Launch) (Z : State) (EL : List (String × Nat)) (y : MethodName) (bytes : ByteArray) (mx : Nat) (rt : Option FieldType) (rm : Room) (as : Array Value) (h0 : Heap) (sf : List Addr) (Φ : Option Value → Heap → Prop) : Prop :=
  ∀ (p : Program) (e : Env) (s : State) (m : MethodId) (below : List Frame) (meth : Method) (c : Code) (s₁ S0 : State), Stand p l e rm (s.setVm s.vm) m as below meth c s₁ [] 0 0 → p.tables.exec = Jvm.exec → c.code = bytes → c.maxLocals = mx → meth.sig.returnType = rt → meth.name = y.name → s.vm.findClass y.cls = some m.cls → Z.Warmed39 s.vm → s₁.heap = h0 → s.Since s.vm 0 → CHr Z EL s.vm h0 s.vm h0 → (∀ x ∈ sf, Safe Z EL s.vm h0 x) →
    Steps p.tables e below S0 (s₁.setTop (entryFrame m as mx)) →
    ∃ (T : State) (vm : Vm) (k : Nat) (v : Option Value) (locs : List Loc) (cells slots : Nat), Stand p l e rm (s.setVm vm) m as below meth c T locs cells slots ∧ cells ≤ rm.cells ∧ slots ≤ rm.slots ∧ (rt = none → v = none) ∧ Fr Z.heap.size locs ∧ s.Since vm k ∧ k ≤ T.heap.size ∧ Z.Warmed39 vm ∧ CHr Z EL s.vm h0 vm T.heap ∧ Φ v T.heap ∧
      ∀ fs, (∀ (f : JFrame) (acts : List Action), f.method = m → f.locked = none → f.entered = [] → (doReturn e (T.setTop f) acts v).1 = T.setFrames fs) → Steps p.tables e below S0 (T.setFrames fs)
theorem own_wmet {ws : List Jvm.Cond} (hx : plainFor y = true) (hEL : EW Z a0 EL) (walk : own_WW l Z EL y bytes mx rt rm as h0 sf Φ) :
    MetFree l y (head1 (Jvm.Cond.code y bytes mx rt :: ws) rm) (fun a U => a = as ∧ Z.Warmed39 U.vm ∧ U.heap = h0 ∧ CHv Z EL U.vm h0 ∧ ∀ x ∈ sf, Safe Z EL U.vm h0 x) (fun _ _ _ _ _ => True) (fun _ U o U' => ∃ v L, o = .returned v ∧ own_Q Z Φ v U'.heap L ∧ CHr Z EL U.vm U.heap U'.vm U'.heap ∧ ReturnedEndW U o U' L rm.cells rm.slots) := by
  refine MetFree.of_bodySF hx hisR ?_
  intro p e s m args below meth c s₁ Bd hml0 hP hK
  obtain ⟨rfl, hZ, hh, hC, hsf⟩ := hP
  have X0 := Stand.of_body Bd
  obtain ⟨T, vm, k, v, locs, cells, slots, X, hc, hs, hv, hN, hS, hk, hZ', hCR, hΦ, st⟩ := walk p e s m below meth c s₁ _ X0 Bd.exec Bd.bytes hml0 Bd.returns (name_of_methodNamed Bd.named Bd.method).1 (findClass_of_methodNamed Bd.named) hZ (by rw [← hh, Bd.state]; rfl) ((State.WarmedH.refl s).since _) (CHr.refl hC) hsf (Steps.refl _)
  obtain ⟨fs, hr, hrun, hended, hE1, hE2, hE3, hE4⟩ := X.leaveW hS hk (v := v) (fun q => hv (by rw [← Bd.returns]; exact q)) Bd.notSynchronized
  exact ⟨_, _, st fs hr, hrun, hended, _, _, rfl, ⟨hN, hΦ⟩, by rw [hh]; exact (show CHr Z EL s.vm h0 T.vm T.heap from hCR.trans (CHv.at X hZ' hEL hCR.1)), hE1, hE2, hE3, hE4.mono hc hs⟩
theorem own_wc (hx : plainFor y = true) (hEL : EW Z a0 EL) (walk : own_WW l Z EL y bytes mx rt rm as h0 sf Φ) : own_WC l Z EL y bytes mx rt rm as h0 sf Φ := own_wmet hx hEL walk
/-- a payer that may intern -/
abbrev own_PayW (l : Launch) (R : Room) (p : Program) (e : Env) (below : List Frame) (s : State) (vm0 : Vm) (args : Array Value) (y : MethodName) (len W : Nat) (as : Array Value) (h : Heap) (kc ks : Nat) (Z : State) (EL : List (String × Nat)) (Q : Option Value → Heap → List Loc → Prop) : Prop :=
  BackS l R p e below (s.setVm vm0) args y len W (fun A a => a = as ∧ A.U.heap = h ∧ A.cells + kc ≤ R.cells ∧ A.slots + ks ≤ R.slots) (fun A _ v B => ∃ L, Q v B.U.heap L ∧ B.locs = A.locs ++ L ∧ B.cells = A.cells + kc ∧ B.slots = A.slots + ks ∧ CHr Z EL vm0 h B.U.vm B.U.heap)
theorem own_wpay {len W : Nat} (hM : own_WC l Z EL y bytes mx rt rm as h sf Φ) (hZ : Z.Warmed39 vm0) (wc : (Cond.code y bytes mx rt).before a0 Z = true) (wz : (Cond.initialized y.cls).before a0 Z = true) (hf : rm.frames + 1 ≤ R.frames) (hl : W + (mx + 11) + rm.locals ≤ R.locals) (hEL : EW Z a0 EL) (H : CHv Z EL vm0 h) (hsf : ∀ x ∈ sf, x < h.size ∧ Safe Z EL vm0 h x) :
    own_PayW l R p e below s vm0 args y len W as h rm.cells rm.slots Z EL (own_Q Z Φ) :=
  BackS.of_freeW (bytes := bytes) (maxL := mx) (ret := rt) (E := fun _ first o t L k n => k = rm.cells ∧ n = rm.slots ∧ (∃ v, o = .returned v ∧ own_Q Z Φ v t.heap L) ∧ CHr Z EL first.vm first.heap t.vm t.heap) hM hf hl
    (fun m meth c A a Y hp => have hU : Z.Warmed39 A.U.vm := wtrans (s := s.setVm vm0) hZ Y.warmed
      ⟨by show (Cond.and _ .tt).before a A.U = true; rw [Cond.before_and, mv hU wc]; rfl, mv hU wc, mv hU wz, hp.2.2.1, hp.2.2.2⟩)
    (fun m meth c A a g mk Y hp => ⟨hp.1, wtrans (s := s.setVm vm0) hZ Y.warmed, hp.2.1, (CHv.at Y hZ hEL H).1, fun x hx => (CHv.at Y hZ hEL H).safe (hsf x hx).1 (hsf x hx).2⟩) (fun _ _ _ _ _ _ _ _ _ => trivial)
    (fun _ _ _ _ ⟨v, L, h1, h2, h3, h4⟩ => ⟨L, _, _, h4, rfl, rfl, ⟨v, h1, h2⟩, h3⟩)
    (fun m meth c A a g mk v t L k n Y hp _ _ ⟨e1, e2, ⟨v', e3, e4⟩, e5⟩ => by
      cases e3; subst e1 e2
      refine ⟨L, e4, rfl, rfl, rfl, (CHv.at Y hZ hEL H).trans ?_⟩
      rw [← hp.2.1]; exact e5)
variable {W kc ks k0 : Nat} {Q : Option Value → Heap → List Loc → Prop} {g : JFrame} {argsL rest : List Value} {b : Addr}
theorem own_wend {T' : State} (hZ : Z.Warmed39 vm0) (hown : vm0.findClass own = some m.cls) (hS : s.Since vm0 k0) (hk : k0 ≤ T.heap.size) (hS' : (s.setVm vm0).Since T'.vm T'.heap.size) (hg : T.heap.size ≤ T'.heap.size) : s.Since T'.vm T'.heap.size ∧ Z.Warmed39 T'.vm ∧ T'.vm.findClass own = some m.cls :=
  ⟨hS.trans hS' (Nat.le_trans hk hg), State.Warmed39.trans (t := s.setVm vm0) hZ hS'.1, by rw [hS'.1.alike.findClass]; exact hown⟩
theorem own_wstat (X : Stand p l e R (s.setVm vm0) m args below meth c T locs cells slots) (hx : p.tables.exec = Jvm.exec) (hml : c.maxLocals = mx) (hZ : Z.Warmed39 vm0) (hown : vm0.findClass own = some m.cls) (hS : s.Since vm0 k0) (hk : k0 ≤ h.size) {bytes' : ByteArray} {mx' : Nat} {rt' : Option FieldType}
    (w1 : (Cond.methodLink own index y).before a0 Z = true) (w2 : (Cond.static y).before a0 Z = true) (w3 : (Cond.initialized y.cls).before a0 Z = true) (w4 : (Cond.code y bytes' mx' rt').before a0 Z = true) (hy : y.cls ≠ "java/lang/invoke/MethodHandle" ∧ y.cls ≠ "java/lang/invoke/VarHandle")
    (hK : own_PayW l R p e below s vm0 args y 3 W argsL.toArray h kc ks Z EL Q) (cm : Steps p.tables e below S0 (T.setTop g)) (hlen : ∀ sig, parseMethodDescriptor y.desc = some sig → argsL.length = sig.parameters.length) (hst : g.stack = argsL.reverse ++ rest) (hd : decode c.code g.pc = .ok (.invokestatic index, 3)) (eT : T.heap = h) (hc : cells + kc ≤ R.cells := by decide) (hs : slots + ks ≤ R.slots := by decide) (hg : g.method = m := by rfl) (hsz : g.locals.size = mx := by rfl) (hW : 2 * g.monitorRoom + (rest.map fun v => v.category).sum ≤ W := by show 2 * 0 + _ ≤ _; exact Nat.le_of_eq rfl) :
    ∃ (v : Option Value) (T' : State) (L : List Loc), Stand p l e R (s.setVm T'.vm) m args below meth c T' (locs ++ L) (cells + kc) (slots + ks) ∧ s.Since T'.vm T'.heap.size ∧ Z.Warmed39 T'.vm ∧ T'.vm.findClass own = some m.cls ∧ CHr Z EL vm0 h T'.vm T'.heap ∧ Q v T'.heap L ∧ Steps p.tables e below S0 (T'.setTop { g with pc := g.pc + 3, stack := v.toList ++ rest }) := by
  obtain ⟨v, _, ⟨T', L', k', n'⟩, -, X', hS', hg', ⟨L, hQ, l1, l2, l3, l4⟩, st⟩ := callSS X hx (y := y) hown (mvT (s := s.setVm vm0) hZ w1) (mvT (s := s.setVm vm0) hZ w2) (mvT (s := s.setVm vm0) hZ w3) (mvT (s := s.setVm vm0) hZ w4) hy hK hg (by rw [hml]; exact hsz) (argsL := argsL) (rest := rest) hlen hst hW hd (fun _ _ => ⟨rfl, eT, hc, hs⟩)
  dsimp only [Pt.U, Pt.locs, Pt.cells, Pt.slots] at X' l1 l2 l3 l4 st hQ hS' hg'
  subst l1 l2 l3
  obtain ⟨q1, q2, q3⟩ := own_wend hZ hown hS (by rw [eT]; exact hk) hS' hg'
  exact ⟨v, T', L, X', q1, q2, q3, l4, hQ, cm.trans st⟩
theorem own_wspec (X : Stand p l e R (s.setVm vm0) m args below meth c T locs cells slots) (hx : p.tables.exec = Jvm.exec) (hml : c.maxLocals = mx) (hZ : Z.Warmed39 vm0) (hown : vm0.findClass own = some m.cls) (hS : s.Since vm0 k0) (hk : k0 ≤ h.size) {bytes' : ByteArray} {mx' : Nat} (hy1 : y.name = "<init>")
    (w1 : (Cond.methodLink own index y).before a0 Z = true) (w2 : (Cond.instanceMethod y).before a0 Z = true) (w4 : (Cond.code y bytes' mx' none).before a0 Z = true) (hy : y.cls ≠ "java/lang/invoke/MethodHandle" ∧ y.cls ≠ "java/lang/invoke/VarHandle")
    (hK : own_PayW l R p e below s vm0 args y 3 W (.ref b :: argsL).toArray h kc ks Z EL Q) (cm : Steps p.tables e below S0 (T.setTop g)) (hlen : ∀ sig, parseMethodDescriptor y.desc = some sig → argsL.length = sig.parameters.length) (hst : g.stack = argsL.reverse ++ .ref b :: rest) (hd : decode c.code g.pc = .ok (.invokespecial index, 3)) (eT : T.heap = h) (hc : cells + kc ≤ R.cells := by decide) (hs : slots + ks ≤ R.slots := by decide) (hg : g.method = m := by rfl) (hsz : g.locals.size = mx := by rfl) (hW : 2 * g.monitorRoom + (rest.map fun v => v.category).sum ≤ W := by show 2 * 0 + _ ≤ _; exact Nat.le_of_eq rfl) :
    ∃ (v : Option Value) (T' : State) (L : List Loc), Stand p l e R (s.setVm T'.vm) m args below meth c T' (locs ++ L) (cells + kc) (slots + ks) ∧ s.Since T'.vm T'.heap.size ∧ Z.Warmed39 T'.vm ∧ T'.vm.findClass own = some m.cls ∧ CHr Z EL vm0 h T'.vm T'.heap ∧ Q v T'.heap L ∧ Steps p.tables e below S0 (T'.setTop { g with pc := g.pc + 3, stack := v.toList ++ rest }) := by
  obtain ⟨v, _, ⟨T', L', k', n'⟩, -, X', hS', hg', ⟨L, hQ, l1, l2, l3, l4⟩, st⟩ := X.specialBackS hx (y := y) hy1 hown (mvT (s := s.setVm vm0) hZ w1) (mvT (s := s.setVm vm0) hZ w2) (mvT (s := s.setVm vm0) hZ w4) hy hK hg (by rw [hml]; exact hsz) cm (a := b) (argsL := argsL) (rest := rest) hlen hst hW hd (fun _ _ => ⟨rfl, eT, hc, hs⟩)
  dsimp only [Pt.U, Pt.locs, Pt.cells, Pt.slots] at X' l1 l2 l3 l4 st hQ hS' hg'
  subst l1 l2 l3
  obtain ⟨q1, q2, q3⟩ := own_wend hZ hown hS (by rw [eT]; exact hk) hS' hg'
  exact ⟨v, T', L, X', q1, q2, q3, l4, hQ, st⟩
theorem own_wvirt (X : Stand p l e R (s.setVm vm0) m args below meth c T locs cells slots) (hx : p.tables.exec = Jvm.exec) (hml : c.maxLocals = mx) (hZ : Z.Warmed39 vm0) (hown : vm0.findClass own = some m.cls) (hS : s.Since vm0 k0) (hk : k0 ≤ h.size)
    (w1 : (Cond.methodLink own index y).before a0 Z = true) (w2 : (Cond.declares y).before a0 Z = true) (w3 : (Cond.selects C y z).before a0 Z = true) (w4 : (Cond.instanceMethod z).before a0 Z = true) {Dn : String} (w5 : (Cond.selects Dn y y).before a0 Z = true) (hy : y.cls ≠ "java/lang/invoke/MethodHandle" ∧ y.cls ≠ "java/lang/invoke/VarHandle")
    (hK : own_PayW l R p e below s vm0 args z 3 W (.ref b :: argsL).toArray h kc ks Z EL Q) (E : Exa Z h b C) (cm : Steps p.tables e below S0 (T.setTop g)) (hlen : ∀ sig, parseMethodDescriptor y.desc = some sig → argsL.length = sig.parameters.length) (hst : g.stack = argsL.reverse ++ .ref b :: rest) (hd : decode c.code g.pc = .ok (.invokevirtual index, 3)) (eT : T.heap = h) (hc : cells + kc ≤ R.cells := by decide) (hs : slots + ks ≤ R.slots := by decide) (hg : g.method = m := by rfl) (hsz : g.locals.size = mx := by rfl) (hW : 2 * g.monitorRoom + (rest.map fun v => v.category).sum ≤ W := by show 2 * 0 + _ ≤ _; exact Nat.le_of_eq rfl) :
    ∃ (v : Option Value) (T' : State) (L : List Loc), Stand p l e R (s.setVm T'.vm) m args below meth c T' (locs ++ L) (cells + kc) (slots + ks) ∧ s.Since T'.vm T'.heap.size ∧ Z.Warmed39 T'.vm ∧ T'.vm.findClass own = some m.cls ∧ CHr Z EL vm0 h T'.vm T'.heap ∧ Q v T'.heap L ∧ Steps p.tables e below S0 (T'.setTop { g with pc := g.pc + 3, stack := v.toList ++ rest }) := by
  obtain ⟨cq, kq, qa, qb, qc⟩ := isOf (s := s.setVm vm0) hZ eT E
  obtain ⟨v, _, ⟨T', L', k', n'⟩, -, X', hS', hg', ⟨L, hQ, l1, l2, l3, l4⟩, st⟩ := X.virtualBackS hx (y := y) (z := z) hown (mvT (s := s.setVm vm0) hZ w1) (mvT (s := s.setVm vm0) hZ w2) (notFace_of_selects (args := #[]) (mvT (s := s.setVm vm0) hZ w5)) (mvT (s := s.setVm vm0) hZ w3) (mvT (s := s.setVm vm0) hZ w4) hy hK qa qc hg (by rw [hml]; exact hsz) cm (argsL := argsL) (rest := rest) hlen hst hW hd (fun _ _ => ⟨rfl, eT, hc, hs⟩)
  dsimp only [Pt.U, Pt.locs, Pt.cells, Pt.slots] at X' l1 l2 l3 l4 st hQ hS' hg'
  subst l1 l2 l3
  obtain ⟨q1, q2, q3⟩ := own_wend hZ hown hS (by rw [eT]; exact hk) hS' hg'
  exact ⟨v, T', L, X', q1, q2, q3, l4, hQ, st⟩
end OwnWide
end Jvm.Pilot.@@N@@
/- laws to paste: Road.backV, Road.lenW, Road.chN, Road.codOf (cut by pick.py; bodies as the Statement names them) -/
namespace Jvm.Pilot.@@N@@
namespace StrChars
open Jvm Sem ClassFile Op Lib Jvm.Stand Jvm.Free.XT Jvm.Free.ALB Jvm.Free.JM Jvm.Free
open Jvm.Lib.Cold (StaticIs)
/-- a char array whose places are chars -/
def Ch (a : Addr) (A : Cell) (U : State) : Prop := Arr .char a A U ∧ Typed .char A
theorem Ch.mv {a : Addr} {A : Cell} {U U' : State} (h : Ch a A U) (hal : U.vm.Alike U'.vm) (hh : U'.heap = U.heap) : Ch a A U' := ⟨h.1.mv hal hh, h.2⟩
theorem Ch.keep {a : Addr} {A : Cell} {U U' : State} (h : Ch a A U) (hal : U.vm.Alike U'.vm) (hk : U'.heap[a]? = some A) : Ch a A U' := ⟨h.1.keep hal hk, h.2⟩
/-- what place i of a char[]'s cell holds -/
def cv (A : Cell) (i : Nat) : Int32 := match A.slots[i]? with | some (.int x) => x | _ => 0
theorem Ch.get {a : Addr} {A : Cell} {U : State} (h : Ch a A U) {i : Nat} (hi : i < A.slots.size) : A.slots[i]? = some (.int (cv A i)) := by
  have e := Array.getElem?_eq_getElem hi
  have f := h.2 i _ e
  unfold cv; rw [e]
  generalize A.slots[i] = v at f
  cases v <;> simp [fits] at f ⊢
/-- the byte that i2b leaves of a char -/
def lo8 (x : Int32) : Int32 := x.toInt8.toInt32
theorem fits_lo8 (y : Int32) : fits .byte (.int (lo8 y)) = true := by
  have h1 := y.toInt8.le_toInt
  have h2 := y.toInt8.toInt_lt
  simp only [lo8, fits, Bool.and_eq_true, decide_eq_true_eq, Int32.le_iff_toInt_le, Int8.toInt_toInt32, show (-128 : Int32).toInt = -128 from by decide, show (127 : Int32).toInt = 127 from by decide]
  omega
/-- A' is A but that each place j of lo .. hi - 1 holds f j -/
def Laid (A A' : Cell) (lo hi : Nat) (f : Nat → Value) : Prop := A'.cls = A.cls ∧ A'.vm = A.vm ∧ A'.slots.size = A.slots.size ∧ ∀ i, A'.slots[i]? = if lo ≤ i ∧ i < hi then some (f i) else A.slots[i]?
theorem Laid.zero (A : Cell) (lo : Nat) (f : Nat → Value) : Laid A A lo (lo + 0) f := ⟨rfl, rfl, rfl, fun i => by rw [if_neg (by omega)]⟩
theorem Laid.step {A Ak : Cell} {lo k : Nat} {f : Nat → Value} {v : Value} (h : Laid A Ak lo k f) (hlo : lo ≤ k) (hk : k < Ak.slots.size) (hv : v = f k) : Laid A (Ak.setSlot k v) lo (k + 1) f := by
  refine ⟨h.1, h.2.1, by simpa [Cell.setSlot] using h.2.2.1, fun i => ?_⟩
  by_cases e : k = i
  · subst e; rw [Cell.slots_setSlot_self v hk, if_pos (by omega), hv]
  · rw [Cell.slots_setSlot_ne v e, h.2.2.2 i]
    by_cases q : lo ≤ i ∧ i < k
    · rw [if_pos q, if_pos (by omega)]
    · rw [if_neg q, if_neg (by omega)]
def U16 : String := "java/lang/StringUTF16"
namespace Cmp5
def yN : MethodName := ⟨"java/lang/StringUTF16", "compress", "([CI[BII)I"⟩
abbrev yB : ByteArray := jdk_52_method_21_code
theorem d0 : decode yB 0 = .ok (.iconst 0, 1) := by decide +kernel
theorem d1 : decode yB 1 = .ok (.istore 5, 2) := by decide +kernel
theorem d3 : decode yB 3 = .ok (.iload 5, 2) := by decide +kernel
theorem d5 : decode yB 5 = .ok (.iload 4, 2) := by decide +kernel
theorem d7 : decode yB 7 = .ok (.if_icmp (.ge) 37, 3) := by decide +kernel
theorem d10 : decode yB 10 = .ok (.aload_n 0, 1) := by decide +kernel
theorem d11 : decode yB 11 = .ok (.iload_n 1, 1) := by decide +kernel
theorem d12 : decode yB 12 = .ok (.caload, 1) := by decide +kernel
theorem d13 : decode yB 13 = .ok (.istore 6, 2) := by decide +kernel
theorem d15 : decode yB 15 = .ok (.iload 6, 2) := by decide +kernel
theorem d17 : decode yB 17 = .ok (.sipush 255, 3) := by decide +kernel
theorem d20 : decode yB 20 = .ok (.if_icmp (.le) 6, 3) := by decide +kernel
theorem d26 : decode yB 26 = .ok (.aload_n 2, 1) := by decide +kernel
theorem d27 : decode yB 27 = .ok (.iload_n 3, 1) := by decide +kernel
theorem d28 : decode yB 28 = .ok (.iload 6, 2) := by decide +kernel
theorem d30 : decode yB 30 = .ok (.i2b, 1) := by decide +kernel
theorem d31 : decode yB 31 = .ok (.bastore, 1) := by decide +kernel
theorem d32 : decode yB 32 = .ok (.iinc 1 1, 3) := by decide +kernel
theorem d35 : decode yB 35 = .ok (.iinc 3 1, 3) := by decide +kernel
theorem d38 : decode yB 38 = .ok (.iinc 5 1, 3) := by decide +kernel
theorem d41 : decode yB 41 = .ok (.goto (-38), 3) := by decide +kernel
theorem d44 : decode yB 44 = .ok (.iload 4, 2) := by decide +kernel
theorem d46 : decode yB 46 = .ok (.ireturn, 1) := by decide +kernel
def site : List Cond := []
def tab : Cond := tabOf yN yB 7 (some .int) site
def P (b : Addr) (A : Cell) (d : Addr) (B : Cell) (o q len : Nat) (args : Array Value) (s : State) : Prop := args = #[.ref b, .int (Int32.ofNat o), .ref d, .int (Int32.ofNat q), .int (Int32.ofNat len)] ∧ Ch b A s ∧ Arr .byte d B s ∧ b ≠ d ∧ o + len ≤ A.slots.size ∧ q + len ≤ B.slots.size ∧ ∀ i, i < len → ¬ 255 < cv A (o + i)
def E (b : Addr) (A : Cell) (d : Addr) (B : Cell) (o q len : Nat) (r : Option Value) (s u : State) : Prop := r = some (.int (Int32.ofNat len)) ∧ ∃ B', Put d B' s u ∧ Laid B B' q (q + len) (fun j => Value.int (lo8 (cv A (o + (j - q)))))
/-- no char of the range above 255: len; the places written hold each char's low byte -/
theorem law (l : Launch) (b : Addr) (A : Cell) (d : Addr) (B : Cell) (o q len : Nat) : Law l yN 5 5 0 0 yB 7 (some .int) site (P b A d B o q len) (E b A d B o q len) (copyLocs d q len) 0 0 := by
  refine Law.of_walk (plainFor_of_name (by decide +kernel)) (by decide +kernel) (by decide +kernel) (by decide) (fun _ _ h => by rw [h.1]; rfl) (fun _ U U' hal hh h => ⟨h.1, h.2.1.mv hal hh, h.2.2.1.mv hal hh, h.2.2.2⟩) (fun r U U' V V' h1 hal h2 h => ⟨h.1, h.2.elim fun B' q => ⟨B', q.1.mv h1 h2, q.2⟩⟩) ?_
  intro p e s m args below meth c s₁ X0 hexec hbytes hml hret hlk hnm hown hh0 W hP
  obtain ⟨rfl, hA, hB, hne, l1, l2, hp⟩ := hP
  have c1 : Steps p.tables e below (s₁.setTop (entryFrame m #[.ref b, .int (Int32.ofNat o), .ref d, .int (Int32.ofNat q), .int (Int32.ofNat len)] 7)) (s₁.setTop (mkF m 0 #[.val (.ref b), .val (.int (Int32.ofNat o)), .val (.ref d), .val (.int (Int32.ofNat q)), .val (.int (Int32.ofNat len)), .unset, .unset] [])) := entry rfl
  have hA0 := hA.1.mv X0.warmed.alike hh0
  have hB0 := hB.mv X0.warmed.alike hh0
  have a31 := hA.1.2.2.2
  have c2 : Steps p.tables e below (s₁.setTop (entryFrame m #[.ref b, .int (Int32.ofNat o), .ref d, .int (Int32.ofNat q), .int (Int32.ofNat len)] 7)) (s₁.setTop (mkF m 3 #[.val (.ref b), .val (.int (Int32.ofNat o)), .val (.ref d), .val (.int (Int32.ofNat q)), .val (.int (Int32.ofNat len)), .val (.int 0), .unset] [])) := c1.trans (by
    refine iconstV X0.here hexec rfl 0 (hb hbytes d0) (by decide) ?_
    refine XS.istore X0.here hexec rfl (hb hbytes d1) rfl rfl ?_
    exact Steps.refl _)
  have loop : ∀ (r i : Nat), i + r = len → ∀ (z : Slot), (z = .unset ∨ ∃ w, z = .val w ∧ w.category = 1) → ∀ (Tl : State) (Bk : Cell), Stand p l e { frames := 0, locals := 0, cells := 0, slots := 0 } s m #[.ref b, .int (Int32.ofNat o), .ref d, .int (Int32.ofNat q), .int (Int32.ofNat len)] below meth c Tl ([] ++ copyLocs d q i) 0 0 → Put d Bk s₁ Tl → Laid B Bk q (q + i) (fun j => Value.int (lo8 (cv A (o + (j - q))))) →
      Steps p.tables e below (s₁.setTop (entryFrame m #[.ref b, .int (Int32.ofNat o), .ref d, .int (Int32.ofNat q), .int (Int32.ofNat len)] 7)) (Tl.setTop (mkF m 3 #[.val (.ref b), .val (.int (Int32.ofNat (o + i))), .val (.ref d), .val (.int (Int32.ofNat (q + i))), .val (.int (Int32.ofNat len)), .val (.int (Int32.ofNat i)), z] [])) → ∃ (T' : State) (B' : Cell) (z' : Slot), Stand p l e { frames := 0, locals := 0, cells := 0, slots := 0 } s m #[.ref b, .int (Int32.ofNat o), .ref d, .int (Int32.ofNat q), .int (Int32.ofNat len)] below meth c T' ([] ++ copyLocs d q len) 0 0 ∧ Put d B' s₁ T' ∧ Laid B B' q (q + len) (fun j => Value.int (lo8 (cv A (o + (j - q))))) ∧
      Steps p.tables e below (s₁.setTop (entryFrame m #[.ref b, .int (Int32.ofNat o), .ref d, .int (Int32.ofNat q), .int (Int32.ofNat len)] 7)) (T'.setTop (mkF m 3 #[.val (.ref b), .val (.int (Int32.ofNat (o + len))), .val (.ref d), .val (.int (Int32.ofNat (q + len))), .val (.int (Int32.ofNat len)), .val (.int (Int32.ofNat len)), z'] [])) := by
    intro r
    induction r with
    | zero =>
      intro i hi z hz Tl Bk Xl pl fl cl
      have hil : i = len := by omega
      rw [hil] at Xl fl cl
      exact ⟨Tl, Bk, z, Xl, pl, fl, cl⟩
    | succ r ih =>
      intro i hi z hz Tl Bk Xl pl fl cl
      have all := X0.warmed.alike.symm.trans Xl.warmed.alike
      have hAl := hA0.keep all (pl.other hne hA0.1)
      have hBk := hB0.like all pl.1 fl.1 fl.2.1 fl.2.2.1
      have hlt : q + i < Bk.slots.size := by rw [fl.2.2.1]; omega
      have c3 : Steps p.tables e below (s₁.setTop (entryFrame m #[.ref b, .int (Int32.ofNat o), .ref d, .int (Int32.ofNat q), .int (Int32.ofNat len)] 7)) (Tl.setTop (mkF m 12 #[.val (.ref b), .val (.int (Int32.ofNat (o + i))), .val (.ref d), .val (.int (Int32.ofNat (q + i))), .val (.int (Int32.ofNat len)), .val (.int (Int32.ofNat i)), z] [.int (Int32.ofNat (o + i)), .ref b])) := cl.trans (by
        refine XS.iload Xl.here hexec rfl (hb hbytes d3) rfl ?_
        refine XS.iload Xl.here hexec rfl (hb hbytes d5) rfl ?_
        refine XS.icmpNo Xl.here hexec rfl (hb hbytes d7) rfl (ii_ge_f (lt32 (by omega) (by omega))) ?_
        refine XS.aloadN Xl.here hexec rfl (hb hbytes d10) rfl rfl ?_
        refine XS.iloadN Xl.here hexec rfl (hb hbytes d11) rfl ?_
        exact Steps.refl _)
      have c4 : Steps p.tables e below (s₁.setTop (entryFrame m #[.ref b, .int (Int32.ofNat o), .ref d, .int (Int32.ofNat q), .int (Int32.ofNat len)] 7)) (Tl.setTop (mkF m 13 #[.val (.ref b), .val (.int (Int32.ofNat (o + i))), .val (.ref d), .val (.int (Int32.ofNat (q + i))), .val (.int (Int32.ofNat len)), .val (.int (Int32.ofNat i)), z] [.int (cv A (o + i))])) := c3.trans (by
        refine Xl.aget hexec hAl rfl (hA.get (i := o + i) (by omega)) rfl rfl (hb hbytes d12) ?_
        exact Steps.refl _)
      have c5 : Steps p.tables e below (s₁.setTop (entryFrame m #[.ref b, .int (Int32.ofNat o), .ref d, .int (Int32.ofNat q), .int (Int32.ofNat len)] 7)) (Tl.setTop (mkF m 15 #[.val (.ref b), .val (.int (Int32.ofNat (o + i))), .val (.ref d), .val (.int (Int32.ofNat (q + i))), .val (.int (Int32.ofNat len)), .val (.int (Int32.ofNat i)), .val (.int (cv A (o + i)))] [])) := c4.trans (by
        refine XS.istoreS Xl.here hexec rfl (hb hbytes d13) rfl rfl hz ?_
        exact Steps.refl _)
      have c6 : Steps p.tables e below (s₁.setTop (entryFrame m #[.ref b, .int (Int32.ofNat o), .ref d, .int (Int32.ofNat q), .int (Int32.ofNat len)] 7)) (Tl.setTop (mkF m 31 #[.val (.ref b), .val (.int (Int32.ofNat (o + i))), .val (.ref d), .val (.int (Int32.ofNat (q + i))), .val (.int (Int32.ofNat len)), .val (.int (Int32.ofNat i)), .val (.int (cv A (o + i)))] [.int (lo8 (cv A (o + i))), .int (Int32.ofNat (q + i)), .ref d])) := c5.trans (by
        refine XS.iload Xl.here hexec rfl (hb hbytes d15) rfl ?_
        refine sipushV Xl.here hexec rfl 255 (hb hbytes d17) (by decide) ?_
        refine XS.icmpYes Xl.here hexec rfl (pc0 := 20) rfl (hb hbytes d20) rfl (ii_le_t (hp i (by omega))) (by decide) rfl ?_
        refine XS.aloadN Xl.here hexec rfl (hb hbytes d26) rfl rfl ?_
        refine XS.iloadN Xl.here hexec rfl (hb hbytes d27) rfl ?_
        refine XS.iload Xl.here hexec rfl (hb hbytes d28) rfl ?_
        refine i2b Xl.here hexec rfl (hb hbytes d30) rfl ?_
        exact Steps.refl _)
      obtain ⟨T7, X7, p7, st7⟩ := Xl.aput hexec hBk rfl hlt rfl (fits_lo8 (cv A (o + i))) (g := (mkF m 31 #[.val (.ref b), .val (.int (Int32.ofNat (o + i))), .val (.ref d), .val (.int (Int32.ofNat (q + i))), .val (.int (Int32.ofNat len)), .val (.int (Int32.ofNat i)), .val (.int (cv A (o + i)))] [.int (lo8 (cv A (o + i))), .int (Int32.ofNat (q + i)), .ref d])) rfl (rest := []) rfl (hb hbytes d31)
      have c8 : Steps p.tables e below (s₁.setTop (entryFrame m #[.ref b, .int (Int32.ofNat o), .ref d, .int (Int32.ofNat q), .int (Int32.ofNat len)] 7)) (T7.setTop (mkF m 32 #[.val (.ref b), .val (.int (Int32.ofNat (o + i))), .val (.ref d), .val (.int (Int32.ofNat (q + i))), .val (.int (Int32.ofNat len)), .val (.int (Int32.ofNat i)), .val (.int (cv A (o + i)))] [])) := c6.trans (st7 _ (Steps.refl _))
      have c9 : Steps p.tables e below (s₁.setTop (entryFrame m #[.ref b, .int (Int32.ofNat o), .ref d, .int (Int32.ofNat q), .int (Int32.ofNat len)] 7)) (T7.setTop (mkF m 3 #[.val (.ref b), .val (.int (Int32.ofNat (o + i) + 1)), .val (.ref d), .val (.int (Int32.ofNat (q + i) + 1)), .val (.int (Int32.ofNat len)), .val (.int (Int32.ofNat i + 1)), .val (.int (cv A (o + i)))] [])) := c8.trans (by
        refine iincV X7.here hexec rfl 1 (hb hbytes d32) (by decide) rfl rfl ?_
        refine iincV X7.here hexec rfl 1 (hb hbytes d35) (by decide) rfl rfl ?_
        refine iincV X7.here hexec rfl 1 (hb hbytes d38) (by decide) rfl rfl ?_
        refine XS.goto X7.here hexec rfl (pc0 := 41) rfl (hb hbytes d41) (by decide) rfl ?_
        exact Steps.refl _)
      have c10 : Steps p.tables e below (s₁.setTop (entryFrame m #[.ref b, .int (Int32.ofNat o), .ref d, .int (Int32.ofNat q), .int (Int32.ofNat len)] 7)) (T7.setTop (mkF m 3 #[.val (.ref b), .val (.int (Int32.ofNat (o + (i + 1)))), .val (.ref d), .val (.int (Int32.ofNat (q + (i + 1)))), .val (.int (Int32.ofNat len)), .val (.int (Int32.ofNat (i + 1))), .val (.int (cv A (o + i)))] [])) := by
        have := c9
        rw [succ32, succ32, succ32] at this
        exact this
      exact ih (i + 1) (by omega) _ (Or.inr ⟨_, rfl, rfl⟩) T7 _ (by rw [copyLocs_step, ← List.append_assoc]; exact X7) (pl.trans p7) (fl.step (by omega) hlt (by simp)) c10
  obtain ⟨T9, B9, z9, X9, p9, f9, g9⟩ := loop len 0 (by omega) .unset (Or.inl rfl) s₁ B (by simpa [copyLocs] using X0) ⟨hB0.1, fun _ _ => rfl, rfl⟩ (Laid.zero _ _ _) c2
  have c11 : Steps p.tables e below (s₁.setTop (entryFrame m #[.ref b, .int (Int32.ofNat o), .ref d, .int (Int32.ofNat q), .int (Int32.ofNat len)] 7)) (T9.setTop (mkF m 46 #[.val (.ref b), .val (.int (Int32.ofNat (o + len))), .val (.ref d), .val (.int (Int32.ofNat (q + len))), .val (.int (Int32.ofNat len)), .val (.int (Int32.ofNat len)), z9] [.int (Int32.ofNat len)])) := g9.trans (by
    refine XS.iload X9.here hexec rfl (hb hbytes d3) rfl ?_
    refine XS.iload X9.here hexec rfl (hb hbytes d5) rfl ?_
    refine XS.icmpYes X9.here hexec rfl (pc0 := 7) rfl (hb hbytes d7) rfl (ii_ge_t (nlt32 (by omega) (Nat.le_refl _))) (by decide) rfl ?_
    refine XS.iload X9.here hexec rfl (hb hbytes d44) rfl ?_
    exact Steps.refl _)
  exact ⟨T9, some (.int (Int32.ofNat len)), _, _, _, X9, by simp, rfl, rfl, (fun h => by cases h), ⟨rfl, B9, p9.from hh0, f9⟩, fun fs hl => c11.trans (X9.ireturnOut hexec hret rfl (Or.inl rfl) (hb hbytes d46) hl)⟩
end Cmp5
namespace Cmp3
def yN : MethodName := ⟨"java/lang/StringUTF16", "compress", "([CII)[B"⟩
abbrev yB : ByteArray := jdk_52_method_16_code
theorem d0 : decode yB 0 = .ok (.iload_n 2, 1) := by decide +kernel
theorem d1 : decode yB 1 = .ok (.newarray .byte, 2) := by decide +kernel
theorem d3 : decode yB 3 = .ok (.astore_n 3, 1) := by decide +kernel
theorem d4 : decode yB 4 = .ok (.aload_n 0, 1) := by decide +kernel
theorem d5 : decode yB 5 = .ok (.iload_n 1, 1) := by decide +kernel
theorem d6 : decode yB 6 = .ok (.aload_n 3, 1) := by decide +kernel
theorem d7 : decode yB 7 = .ok (.iconst 0, 1) := by decide +kernel
theorem d8 : decode yB 8 = .ok (.iload_n 2, 1) := by decide +kernel
theorem d9 : decode yB 9 = .ok (.invokestatic 115, 3) := by decide +kernel
theorem d12 : decode yB 12 = .ok (.istore 4, 2) := by decide +kernel
theorem d14 : decode yB 14 = .ok (.iload 4, 2) := by decide +kernel
theorem d16 : decode yB 16 = .ok (.iload_n 2, 1) := by decide +kernel
theorem d17 : decode yB 17 = .ok (.if_icmp (.eq) 40, 3) := by decide +kernel
theorem d57 : decode yB 57 = .ok (.aload_n 3, 1) := by decide +kernel
theorem d58 : decode yB 58 = .ok (.areturn, 1) := by decide +kernel
def site : List Cond := [.arrayClass .byte, Cmp5.tab] ++ staticW U16 115 Cmp5.yN
def tab : Cond := tabOf yN yB 6 (some (.array .byte)) site
def P (b : Addr) (A : Cell) (o len : Nat) (args : Array Value) (s : State) : Prop := args = #[.ref b, .int (Int32.ofNat o), .int (Int32.ofNat len)] ∧ Ch b A s ∧ o + len ≤ A.slots.size ∧ len ≤ 536870912 ∧ ∀ i, i < len → ¬ 255 < cv A (o + i)
def E (b : Addr) (A : Cell) (o len : Nat) (r : Option Value) (s u : State) : Prop := NewArr .byte "[B" len (fun j => .int (lo8 (cv A (o + j)))) r s u ∧ u.heap.size = s.heap.size + 1
/-- no char of the range above 255: a new byte[] of their low bytes -/
theorem law (l : Launch) (b : Addr) (A : Cell) (o len : Nat) : Law l yN 3 3 1 18 yB 6 (some (.array .byte)) site (P b A o len) (E b A o len) [] 1 len := by
  refine Law.of_walk (plainFor_of_name (by decide +kernel)) (by decide +kernel) (by decide +kernel) (by decide) (fun _ _ h => by rw [h.1]; rfl) (fun _ U U' hal hh h => ⟨h.1, h.2.1.mv hal hh, h.2.2⟩) (fun r U U' V V' h1 hal h2 h => ⟨NewArr.mv r U U' V V' h1 hal h2 h.1, by rw [h1, h2]; exact h.2⟩) ?_
  intro p e s m args below meth c s₁ X0 hexec hbytes hml hret hlk hnm hown hh0 W hP
  obtain ⟨rfl, hA, l1, l2, hp⟩ := hP
  have a31 := hA.1.2.2.2
  have c1 : Steps p.tables e below (s₁.setTop (entryFrame m #[.ref b, .int (Int32.ofNat o), .int (Int32.ofNat len)] 6)) (s₁.setTop (mkF m 0 #[.val (.ref b), .val (.int (Int32.ofNat o)), .val (.int (Int32.ofNat len)), .unset, .unset, .unset] [])) := entry rfl
  have c2 : Steps p.tables e below (s₁.setTop (entryFrame m #[.ref b, .int (Int32.ofNat o), .int (Int32.ofNat len)] 6)) (s₁.setTop (mkF m 1 #[.val (.ref b), .val (.int (Int32.ofNat o)), .val (.int (Int32.ofNat len)), .unset, .unset, .unset] [.int (Int32.ofNat len)])) := c1.trans (by
    refine XS.iloadN X0.here hexec rfl (hb hbytes d0) rfl ?_
    exact Steps.refl _)
  obtain ⟨T3, B3, X3, ba3, bs3, bv3, bh3, bf3, st3⟩ := X0.anew hexec (atype := .byte) (wk W (.arrayClass .byte)) rfl (by show len * 1 ≤ _; omega) (by omega) (g := (mkF m 1 #[.val (.ref b), .val (.int (Int32.ofNat o)), .val (.int (Int32.ofNat len)), .unset, .unset, .unset] [.int (Int32.ofNat len)])) rfl (hb hbytes d1) (rest := []) rfl (Nat.le_refl _) (by show 0 + len ≤ len; omega)
  rw [hh0] at ba3 st3
  have kp3 : XT.Kept s T3 := (XT.Kept.of_eq hh0).push bh3
  have hA3 := hA.keep X3.warmed.alike (kp3 _ _ hA.1.1)
  have hne : b ≠ s.heap.size := hA.1.ne
  have c4 : Steps p.tables e below (s₁.setTop (entryFrame m #[.ref b, .int (Int32.ofNat o), .int (Int32.ofNat len)] 6)) (T3.setTop (mkF m 3 #[.val (.ref b), .val (.int (Int32.ofNat o)), .val (.int (Int32.ofNat len)), .unset, .unset, .unset] [.ref s.heap.size])) := c2.trans (st3 _ (Steps.refl _))
  have c5 : Steps p.tables e below (s₁.setTop (entryFrame m #[.ref b, .int (Int32.ofNat o), .int (Int32.ofNat len)] 6)) (T3.setTop (mkF m 9 #[.val (.ref b), .val (.int (Int32.ofNat o)), .val (.int (Int32.ofNat len)), .val (.ref s.heap.size), .unset, .unset] [.int (Int32.ofNat len), .int 0, .ref s.heap.size, .int (Int32.ofNat o), .ref b])) := c4.trans (by
    refine XS.astoreN X3.here hexec rfl (hb hbytes d3) rfl rfl rfl ?_
    refine XS.aloadN X3.here hexec rfl (hb hbytes d4) rfl rfl ?_
    refine XS.iloadN X3.here hexec rfl (hb hbytes d5) rfl ?_
    refine XS.aloadN X3.here hexec rfl (hb hbytes d6) rfl rfl ?_
    refine iconstV X3.here hexec rfl 0 (hb hbytes d7) (by decide) ?_
    refine XS.iloadN X3.here hexec rfl (hb hbytes d8) rfl ?_
    exact Steps.refl _)
  obtain ⟨v6, T6, X6, E6, g6⟩ := X3.callS hexec (Cmp5.law l b A s.heap.size B3 o 0 len) hown (wks W (staticW U16 115 Cmp5.yN)) (wk W Cmp5.tab) (W := 0) (Nat.le_of_ble_eq_true rfl) (Nat.le_of_ble_eq_true rfl) (Nat.le_refl _) (by show 0 + len + 0 ≤ len; omega) (g := (mkF m 9 #[.val (.ref b), .val (.int (Int32.ofNat o)), .val (.int (Int32.ofNat len)), .val (.ref s.heap.size), .unset, .unset] [.int (Int32.ofNat len), .int (Int32.ofNat 0), .ref s.heap.size, .int (Int32.ofNat o), .ref b])) rfl (by rw [hml]; rfl) c5 (argsL := [.ref b, .int (Int32.ofNat o), .ref s.heap.size, .int (Int32.ofNat 0), .int (Int32.ofNat len)]) (rest := []) rfl rfl (by show 2 * 0 + 0 ≤ _; decide) (hb hbytes d9) (⟨rfl, hA3, ba3, hne, l1, by rw [bs3]; simp, hp⟩)
  obtain ⟨rfl, B6, p6, f6⟩ := E6
  have c7 : Steps p.tables e below (s₁.setTop (entryFrame m #[.ref b, .int (Int32.ofNat o), .int (Int32.ofNat len)] 6)) (T6.setTop (mkF m 12 #[.val (.ref b), .val (.int (Int32.ofNat o)), .val (.int (Int32.ofNat len)), .val (.ref s.heap.size), .unset, .unset] [.int (Int32.ofNat len)])) := g6
  have c8 : Steps p.tables e below (s₁.setTop (entryFrame m #[.ref b, .int (Int32.ofNat o), .int (Int32.ofNat len)] 6)) (T6.setTop (mkF m 58 #[.val (.ref b), .val (.int (Int32.ofNat o)), .val (.int (Int32.ofNat len)), .val (.ref s.heap.size), .val (.int (Int32.ofNat len)), .unset] [.ref s.heap.size])) := c7.trans (by
    refine XS.istore X6.here hexec rfl (hb hbytes d12) rfl rfl ?_
    refine XS.iload X6.here hexec rfl (hb hbytes d14) rfl ?_
    refine XS.iloadN X6.here hexec rfl (hb hbytes d16) rfl ?_
    refine XS.icmpYes X6.here hexec rfl (pc0 := 17) rfl (hb hbytes d17) rfl (ii_eq_t rfl) (by decide) rfl ?_
    refine XS.aloadN X6.here hexec rfl (hb hbytes d57) rfl rfl ?_
    exact Steps.refl _)
  have X8 := X6.wide (L' := []) (cells' := 1) (slots' := len) (fun x hx hlt => by
    simp only [List.nil_append, copyLocs, List.mem_map, List.mem_range] at hx
    obtain ⟨i, -, rfl⟩ := hx
    exact absurd hlt (Nat.lt_irrefl _)) (Nat.le_refl _) (by omega)
  exact ⟨T6, some (.ref s.heap.size), _, _, _, X8, rfl, rfl, rfl, (fun h => by cases h), ⟨⟨rfl, B6, ba3.like (X3.warmed.alike.symm.trans X6.warmed.alike) p6.1 f6.1 f6.2.1 f6.2.2.1, f6.2.1.trans bv3, by rw [X6.warmed.alike.findClass, f6.1]; exact bf3, by rw [f6.2.2.1, bs3]; simp, fun j hj => by rw [f6.2.2.2 j, if_pos (by omega)]; rfl, kp3.put p6 (Nat.le_refl _)⟩, by rw [p6.2.2, bh3, hh0]; simp⟩, fun fs hl => c8.trans (X8.areturnOut hexec rfl hret rfl (hb hbytes d58) hl)⟩
end Cmp3
namespace CodL
def yN : MethodName := ⟨"java/lang/StringUTF16", "coderFromArrayLen", "([BI)B"⟩
abbrev yB : ByteArray := jdk_52_method_15_code
theorem d0 : decode yB 0 = .ok (.iload_n 1, 1) := by decide +kernel
theorem d1 : decode yB 1 = .ok (.aload_n 0, 1) := by decide +kernel
theorem d2 : decode yB 2 = .ok (.arraylength, 1) := by decide +kernel
theorem d3 : decode yB 3 = .ok (.isub, 1) := by decide +kernel
theorem d4 : decode yB 4 = .ok (.bipush 31, 2) := by decide +kernel
theorem d6 : decode yB 6 = .ok (.iushr, 1) := by decide +kernel
theorem d7 : decode yB 7 = .ok (.i2b, 1) := by decide +kernel
theorem d8 : decode yB 8 = .ok (.ireturn, 1) := by decide +kernel
def site : List Cond := []
def tab : Cond := tabOf yN yB 2 (some .byte) site
def P (d : Addr) (B : Cell) (args : Array Value) (s : State) : Prop := args = #[.ref d, .int (Int32.ofNat B.slots.size)] ∧ Arr .byte d B s
def E (r : Option Value) (s u : State) : Prop := XT.PureE (some (.int 0)) r s u
/-- an array as long as the number of chars: LATIN1 -/
theorem law (l : Launch) (d : Addr) (B : Cell) : Law l yN 2 2 0 0 yB 2 (some .byte) site (P d B) E [] 0 0 := by
  refine Law.of_walk (plainFor_of_name (by decide +kernel)) (by decide +kernel) (by decide +kernel) (by decide) (fun _ _ h => by rw [h.1]; rfl) (fun _ U U' hal hh h => ⟨h.1, h.2.mv hal hh⟩) (fun r U U' V V' h1 hal h2 h => XT.PureE.mv r U U' V V' h1 hal h2 h) ?_
  intro p e s m args below meth c s₁ X0 hexec hbytes hml hret hlk hnm hown hh0 W hP
  obtain ⟨rfl, hB⟩ := hP
  have hB0 := hB.mv X0.warmed.alike hh0
  have c1 : Steps p.tables e below (s₁.setTop (entryFrame m #[.ref d, .int (Int32.ofNat B.slots.size)] 2)) (s₁.setTop (mkF m 0 #[.val (.ref d), .val (.int (Int32.ofNat B.slots.size))] [])) := entry rfl
  have c2 : Steps p.tables e below (s₁.setTop (entryFrame m #[.ref d, .int (Int32.ofNat B.slots.size)] 2)) (s₁.setTop (mkF m 2 #[.val (.ref d), .val (.int (Int32.ofNat B.slots.size))] [.ref d, .int (Int32.ofNat B.slots.size)])) := c1.trans (by
    refine XS.iloadN X0.here hexec rfl (hb hbytes d0) rfl ?_
    refine XS.aloadN X0.here hexec rfl (hb hbytes d1) rfl rfl ?_
    exact Steps.refl _)
  have c3 : Steps p.tables e below (s₁.setTop (entryFrame m #[.ref d, .int (Int32.ofNat B.slots.size)] 2)) (s₁.setTop (mkF m 8 #[.val (.ref d), .val (.int (Int32.ofNat B.slots.size))] [.int (lo8 (ushr (Int32.ofNat B.slots.size - Int32.ofNat B.slots.size) 31))])) := c2.trans (by
    refine X0.alen hexec hB0 rfl rfl (hb hbytes d2) ?_
    refine XS.isub X0.here hexec rfl (hb hbytes d3) rfl ?_
    refine bipushV X0.here hexec rfl 31 (hb hbytes d4) (by decide) ?_
    refine iushr X0.here hexec rfl (hb hbytes d6) rfl ?_
    refine i2b X0.here hexec rfl (hb hbytes d7) rfl ?_
    exact Steps.refl _)
  have e0 : lo8 (ushr (Int32.ofNat B.slots.size - Int32.ofNat B.slots.size) 31) = 0 := by rw [Int32.sub_self]; decide
  rw [e0] at c3
  exact ⟨s₁, some (.int 0), _, _, _, X0, rfl, rfl, rfl, (fun h => by cases h), ⟨rfl, hh0⟩, fun fs hl => c3.trans (X0.ireturnOut hexec hret rfl (Or.inr (Or.inr (Or.inl rfl))) (hb hbytes d8) hl)⟩
end CodL
/-- the String at a is Latin-1 over a new byte[] (the heap's one new cell): the low bytes of the len chars of A from o on; every cell but a is kept -/
def Got (a : Addr) (D : Cell) (fV fC : Field) (A : Cell) (o len : Nat) (r : Option Value) (s u : State) : Prop := r = none ∧ ∃ D' V : Cell, Blank "java/lang/String" a D' u ∧ Same D D' [fV.slot, fC.slot] ∧ D'.slots[fV.slot]? = some (.ref s.heap.size) ∧ D'.slots[fC.slot]? = some (.int 0) ∧ Arr .byte s.heap.size V u ∧ V.vm = .none ∧ u.vm.findClass "[B" = some V.cls ∧ V.slots.size = len ∧ (∀ j, j < len → V.slots[j]? = some (.int (lo8 (cv A (o + j))))) ∧ (∀ (y : Addr) (c : Cell), y ≠ a → s.heap[y]? = some c → u.heap[y]? = some c) ∧ u.heap.size = s.heap.size + 1
theorem Got.mv {a : Addr} {D A : Cell} {fV fC : Field} {o len : Nat} : ∀ r (U U' V V' : State), U'.heap = U.heap → V.vm.Alike V'.vm → V'.heap = V.heap → Got a D fV fC A o len r U V → Got a D fV fC A o len r U' V' :=
  fun r U U' V V' h1 hal h2 ⟨e0, D', X, a1, a2, a3, a4, a5, a6, a7, a8, a9, a10, a11⟩ => ⟨e0, D', X, a1.mv hal h2, a2, by rw [h1]; exact a3, a4, by rw [h1]; exact a5.mv hal h2, a6, by rw [hal.findClass]; exact a7, a8, a9, by rw [h1, h2]; exact a10, by rw [h1, h2]; exact a11⟩
namespace New4
def yN : MethodName := ⟨"java/lang/String", "<init>", "([CIILjava/lang/Void;)V"⟩
abbrev yB : ByteArray := jdk_42_method_149_code
theorem d0 : decode yB 0 = .ok (.aload_n 0, 1) := by decide +kernel
theorem d1 : decode yB 1 = .ok (.invokespecial 1, 3) := by decide +kernel
theorem d4 : decode yB 4 = .ok (.iload_n 3, 1) := by decide +kernel
theorem d5 : decode yB 5 = .ok (.ifCond (.ne) 22, 3) := by decide +kernel
theorem d27 : decode yB 27 = .ok (.getstatic 38, 3) := by decide +kernel
theorem d30 : decode yB 30 = .ok (.ifCond (.eq) 28, 3) := by decide +kernel
theorem d33 : decode yB 33 = .ok (.aload_n 1, 1) := by decide +kernel
theorem d34 : decode yB 34 = .ok (.iload_n 2, 1) := by decide +kernel
theorem d35 : decode yB 35 = .ok (.iload_n 3, 1) := by decide +kernel
theorem d36 : decode yB 36 = .ok (.invokestatic 177, 3) := by decide +kernel
theorem d39 : decode yB 39 = .ok (.astore 5, 2) := by decide +kernel
theorem d41 : decode yB 41 = .ok (.aload_n 0, 1) := by decide +kernel
theorem d42 : decode yB 42 = .ok (.aload 5, 2) := by decide +kernel
theorem d44 : decode yB 44 = .ok (.iload_n 3, 1) := by decide +kernel
theorem d45 : decode yB 45 = .ok (.invokestatic 47, 3) := by decide +kernel
theorem d48 : decode yB 48 = .ok (.putfield 15, 3) := by decide +kernel
theorem d51 : decode yB 51 = .ok (.aload_n 0, 1) := by decide +kernel
theorem d52 : decode yB 52 = .ok (.aload 5, 2) := by decide +kernel
theorem d54 : decode yB 54 = .ok (.putfield 9, 3) := by decide +kernel
theorem d57 : decode yB 57 = .ok (.return_, 1) := by decide +kernel
def site : List Cond := [.fieldLink "java/lang/String" 38 "java/lang/String" "COMPACT_STRINGS" "Z", Cmp3.tab, CodL.tab, .laysFinal "java/lang/String" "java/lang/String" "value" "[B", .fieldLink "java/lang/String" 9 "java/lang/String" "value" "[B", .laysFinal "java/lang/String" "java/lang/String" "coder" "B", .fieldLink "java/lang/String" 15 "java/lang/String" "coder" "B"] ++ objW "java/lang/String" 1 ++ staticW "java/lang/String" 177 Cmp3.yN ++ staticW "java/lang/String" 47 CodL.yN
def tab : Cond := tabOf yN yB 6 none site
def P (a : Addr) (D : Cell) (fV fC : Field) (b : Addr) (A : Cell) (z : Int32) (o len : Nat) (args : Array Value) (s : State) : Prop := args = #[.ref a, .ref b, .int (Int32.ofNat o), .int (Int32.ofNat len), .null] ∧ Blank "java/lang/String" a D s ∧ Found "java/lang/String" "value" "[B" fV s ∧ Found "java/lang/String" "coder" "B" fC s ∧ Ch b A s ∧ StaticIs s "java/lang/String" "COMPACT_STRINGS" "Z" (.int z) ∧ ¬ z = 0 ∧ 0 < len ∧ o + len ≤ A.slots.size ∧ len ≤ 536870912 ∧ ∀ i, i < len → ¬ 255 < cv A (o + i)
def E (a : Addr) (D : Cell) (fV fC : Field) (A : Cell) (o len : Nat) (r : Option Value) (s u : State) : Prop := Got a D fV fC A o len r s u
/-- len > 0, no char of the range above 255: a Latin-1 String of their low bytes -/
theorem law (l : Launch) (a : Addr) (D : Cell) (fV fC : Field) (b : Addr) (A : Cell) (z : Int32) (o len : Nat) : Law l yN 5 4 2 35 yB 6 none site (P a D fV fC b A z o len) (E a D fV fC A o len) [⟨a, fC.slot⟩, ⟨a, fV.slot⟩] 1 len := by
  refine Law.of_walk (plainFor_of_name (by decide +kernel)) (by decide +kernel) (by decide +kernel) (by decide) (fun _ _ h => by rw [h.1]; rfl) (fun _ U U' hal hh h => ⟨h.1, h.2.1.mv hal hh, h.2.2.1.al hal, h.2.2.2.1.al hal, h.2.2.2.2.1.mv hal hh, h.2.2.2.2.2.1.there hal hh, h.2.2.2.2.2.2⟩) (fun r U U' V V' h1 hal h2 h => Got.mv r U U' V V' h1 hal h2 h) ?_
  intro p e s m args below meth c s₁ X0 hexec hbytes hml hret hlk hnm hown hh0 W hP
  obtain ⟨rfl, hB, f1, f2, hA, s1, hz, l0, l1, l2, hp⟩ := hP
  have a31 := hA.1.2.2.2
  have c1 : Steps p.tables e below (s₁.setTop (entryFrame m #[.ref a, .ref b, .int (Int32.ofNat o), .int (Int32.ofNat len), .null] 6)) (s₁.setTop (mkF m 0 #[.val (.ref a), .val (.ref b), .val (.int (Int32.ofNat o)), .val (.int (Int32.ofNat len)), .val .null, .unset] [])) := entry rfl
  have c2 : Steps p.tables e below (s₁.setTop (entryFrame m #[.ref a, .ref b, .int (Int32.ofNat o), .int (Int32.ofNat len), .null] 6)) (s₁.setTop (mkF m 1 #[.val (.ref a), .val (.ref b), .val (.int (Int32.ofNat o)), .val (.int (Int32.ofNat len)), .val .null, .unset] [.ref a])) := c1.trans (by
    refine XS.aloadN X0.here hexec rfl (hb hbytes d0) rfl rfl ?_
    exact Steps.refl _)
  obtain ⟨T3, X3, q3, st3⟩ := X0.oinit hexec hown (wks W (objW "java/lang/String" 1)) (g := (mkF m 1 #[.val (.ref a), .val (.ref b), .val (.int (Int32.ofNat o)), .val (.int (Int32.ofNat len)), .val .null, .unset] [.ref a])) rfl (by rw [hml]; rfl) (rest := []) rfl (hb hbytes d1) (W := 0) (by show 2 * 0 + 0 ≤ _; decide) (Nat.le_of_ble_eq_true rfl) (Nat.le_of_ble_eq_true rfl)
  have hh3 := q3.trans hh0
  have c4 : Steps p.tables e below (s₁.setTop (entryFrame m #[.ref a, .ref b, .int (Int32.ofNat o), .int (Int32.ofNat len), .null] 6)) (T3.setTop (mkF m 27 #[.val (.ref a), .val (.ref b), .val (.int (Int32.ofNat o)), .val (.int (Int32.ofNat len)), .val .null, .unset] [])) := (c2.trans (st3 _ (Steps.refl _))).trans (by
    refine XS.iloadN X3.here hexec rfl (hb hbytes d4) rfl ?_
    refine XS.ifYes X3.here hexec rfl (pc0 := 5) rfl (hb hbytes d5) rfl (i0_ne_t (nz32 (by omega) l0)) (by decide) rfl ?_
    exact Steps.refl _)
  obtain ⟨T5, X5, q5, st5⟩ := X3.sget hexec hown (wk W (.fieldLink "java/lang/String" 38 "java/lang/String" "COMPACT_STRINGS" "Z")) s1 (fun _ _ h => by rw [hh3]; exact h) (g := (mkF m 27 #[.val (.ref a), .val (.ref b), .val (.int (Int32.ofNat o)), .val (.int (Int32.ofNat len)), .val .null, .unset] [])) rfl (hb hbytes d27)
  have hh5 := q5.trans hh3
  have c6 : Steps p.tables e below (s₁.setTop (entryFrame m #[.ref a, .ref b, .int (Int32.ofNat o), .int (Int32.ofNat len), .null] 6)) (T5.setTop (mkF m 30 #[.val (.ref a), .val (.ref b), .val (.int (Int32.ofNat o)), .val (.int (Int32.ofNat len)), .val .null, .unset] [.int z])) := c4.trans (st5 _ (Steps.refl _))
  have c7 : Steps p.tables e below (s₁.setTop (entryFrame m #[.ref a, .ref b, .int (Int32.ofNat o), .int (Int32.ofNat len), .null] 6)) (T5.setTop (mkF m 36 #[.val (.ref a), .val (.ref b), .val (.int (Int32.ofNat o)), .val (.int (Int32.ofNat len)), .val .null, .unset] [.int (Int32.ofNat len), .int (Int32.ofNat o), .ref b])) := c6.trans (by
    refine XS.ifNo X5.here hexec rfl (hb hbytes d30) rfl (i0_eq_f hz) ?_
    refine XS.aloadN X5.here hexec rfl (hb hbytes d33) rfl rfl ?_
    refine XS.iloadN X5.here hexec rfl (hb hbytes d34) rfl ?_
    refine XS.iloadN X5.here hexec rfl (hb hbytes d35) rfl ?_
    exact Steps.refl _)
  obtain ⟨v8, T8, X8, E8, g8⟩ := X5.callS hexec (Cmp3.law l b A o len) hown (wks W (staticW "java/lang/String" 177 Cmp3.yN)) (wk W Cmp3.tab) (W := 0) (Nat.le_of_ble_eq_true rfl) (Nat.le_of_ble_eq_true rfl) (Nat.le_refl _) (by show 0 + len ≤ len; omega) (g := (mkF m 36 #[.val (.ref a), .val (.ref b), .val (.int (Int32.ofNat o)), .val (.int (Int32.ofNat len)), .val .null, .unset] [.int (Int32.ofNat len), .int (Int32.ofNat o), .ref b])) rfl (by rw [hml]; rfl) c7 (argsL := [.ref b, .int (Int32.ofNat o), .int (Int32.ofNat len)]) (rest := []) rfl rfl (by show 2 * 0 + 0 ≤ _; decide) (hb hbytes d36) (⟨rfl, hA.mv X5.warmed.alike hh5, l1, l2, hp⟩)
  obtain ⟨e8, z8⟩ := E8
  obtain ⟨rfl, N, n1, n2, n3, n4, n5, n6⟩ := NewArr.mv _ T5 s _ _ hh5.symm (Vm.Alike.refl _) rfl e8
  rw [hh5] at z8
  have hB1 := hB.keep X8.warmed.alike (n6 _ _ hB.1)
  have hne : s.heap.size ≠ a := (Nat.ne_of_lt (Array.getElem?_eq_some_iff.mp hB.1).1).symm
  have c9 : Steps p.tables e below (s₁.setTop (entryFrame m #[.ref a, .ref b, .int (Int32.ofNat o), .int (Int32.ofNat len), .null] 6)) (T8.setTop (mkF m 39 #[.val (.ref a), .val (.ref b), .val (.int (Int32.ofNat o)), .val (.int (Int32.ofNat len)), .val .null, .unset] [.ref s.heap.size])) := g8
  have c10 : Steps p.tables e below (s₁.setTop (entryFrame m #[.ref a, .ref b, .int (Int32.ofNat o), .int (Int32.ofNat len), .null] 6)) (T8.setTop (mkF m 45 #[.val (.ref a), .val (.ref b), .val (.int (Int32.ofNat o)), .val (.int (Int32.ofNat len)), .val .null, .val (.ref s.heap.size)] [.int (Int32.ofNat N.slots.size), .ref s.heap.size, .ref a])) := by
    have hc : Steps p.tables e below (s₁.setTop (entryFrame m #[.ref a, .ref b, .int (Int32.ofNat o), .int (Int32.ofNat len), .null] 6)) (T8.setTop (mkF m 45 #[.val (.ref a), .val (.ref b), .val (.int (Int32.ofNat o)), .val (.int (Int32.ofNat len)), .val .null, .val (.ref s.heap.size)] [.int (Int32.ofNat len), .ref s.heap.size, .ref a])) := c9.trans (by
      refine XS.astore X8.here hexec rfl (hb hbytes d39) rfl rfl rfl ?_
      refine XS.aloadN X8.here hexec rfl (hb hbytes d41) rfl rfl ?_
      refine XS.aload X8.here hexec rfl (hb hbytes d42) rfl rfl ?_
      refine XS.iloadN X8.here hexec rfl (hb hbytes d44) rfl ?_
      exact Steps.refl _)
    rw [n4]; exact hc
  obtain ⟨v11, T11, X11, E11, g11⟩ := X8.callS hexec (CodL.law l s.heap.size N) hown (wks W (staticW "java/lang/String" 47 CodL.yN)) (wk W CodL.tab) (W := 1) (Nat.le_of_ble_eq_true rfl) (Nat.le_of_ble_eq_true rfl) (Nat.le_refl _) (by show 0 + len + 0 ≤ len; omega) (g := (mkF m 45 #[.val (.ref a), .val (.ref b), .val (.int (Int32.ofNat o)), .val (.int (Int32.ofNat len)), .val .null, .val (.ref s.heap.size)] [.int (Int32.ofNat N.slots.size), .ref s.heap.size, .ref a])) rfl (by rw [hml]; rfl) c10 (argsL := [.ref s.heap.size, .int (Int32.ofNat N.slots.size)]) (rest := [.ref a]) rfl rfl (by show 2 * 0 + (1 + 0) ≤ _; decide) (hb hbytes d45) (⟨rfl, n1⟩)
  obtain ⟨rfl, q11⟩ := E11
  have hB11 := hB1.mv (X8.warmed.alike.symm.trans X11.warmed.alike) q11
  have c12 : Steps p.tables e below (s₁.setTop (entryFrame m #[.ref a, .ref b, .int (Int32.ofNat o), .int (Int32.ofNat len), .null] 6)) (T11.setTop (mkF m 48 #[.val (.ref a), .val (.ref b), .val (.int (Int32.ofNat o)), .val (.int (Int32.ofNat len)), .val .null, .val (.ref s.heap.size)] [.int 0, .ref a])) := g11
  obtain ⟨T13, X13, p13, bl13, sl13, st13⟩ := X11.finit hexec hown (wk W (.fieldLink "java/lang/String" 15 "java/lang/String" "coder" "B")) (Or.inr ⟨_, (wk W (.laysFinal "java/lang/String" "java/lang/String" "coder" "B"))⟩) (Or.inl ⟨rfl, hnm⟩) f2 (Or.inl rfl) hB11 (t := .byte) (by decide +kernel) rfl (g := (mkF m 48 #[.val (.ref a), .val (.ref b), .val (.int (Int32.ofNat o)), .val (.int (Int32.ofNat len)), .val .null, .val (.ref s.heap.size)] [.int 0, .ref a])) rfl (rest := []) rfl (hb hbytes d48)
  have c14 : Steps p.tables e below (s₁.setTop (entryFrame m #[.ref a, .ref b, .int (Int32.ofNat o), .int (Int32.ofNat len), .null] 6)) (T13.setTop (mkF m 54 #[.val (.ref a), .val (.ref b), .val (.int (Int32.ofNat o)), .val (.int (Int32.ofNat len)), .val .null, .val (.ref s.heap.size)] [.ref s.heap.size, .ref a])) := (c12.trans (st13 _ (Steps.refl _))).trans (by
    refine XS.aloadN X13.here hexec rfl (hb hbytes d51) rfl rfl ?_
    refine XS.aload X13.here hexec rfl (hb hbytes d52) rfl rfl ?_
    exact Steps.refl _)
  obtain ⟨T15, X15, p15, bl15, sl15, st15⟩ := X13.finit hexec hown (wk W (.fieldLink "java/lang/String" 9 "java/lang/String" "value" "[B")) (Or.inr ⟨_, (wk W (.laysFinal "java/lang/String" "java/lang/String" "value" "[B"))⟩) (Or.inl ⟨rfl, hnm⟩) f1 (Or.inl rfl) bl13 (t := (.array .byte)) (by decide +kernel) rfl (g := (mkF m 54 #[.val (.ref a), .val (.ref b), .val (.int (Int32.ofNat o)), .val (.int (Int32.ofNat len)), .val .null, .val (.ref s.heap.size)] [.ref s.heap.size, .ref a])) rfl (rest := []) rfl (hb hbytes d54)
  have c16 : Steps p.tables e below (s₁.setTop (entryFrame m #[.ref a, .ref b, .int (Int32.ofNat o), .int (Int32.ofNat len), .null] 6)) (T15.setTop (mkF m 57 #[.val (.ref a), .val (.ref b), .val (.int (Int32.ofNat o)), .val (.int (Int32.ofNat len)), .val .null, .val (.ref s.heap.size)] [])) := c14.trans (st15 _ (Steps.refl _))
  have ap := apart (Or.inr ⟨_, (wk W (.laysFinal "java/lang/String" "java/lang/String" "value" "[B"))⟩) (Or.inr ⟨_, (wk W (.laysFinal "java/lang/String" "java/lang/String" "coder" "B"))⟩) f1 f2 (t₁ := .array .byte) (t₂ := .byte) (by decide +kernel) (by decide +kernel) (by decide)
  have al := X8.warmed.alike.symm.trans X15.warmed.alike
  have n7 : T11.heap[s.heap.size]? = some N := by rw [q11]; exact n1.1
  exact ⟨T15, none, _, _, _, X15, by simp, rfl, by omega, (fun _ => rfl), ⟨rfl, _, N, bl15, ((Same.refl D _).set _ (by simp)).set _ (by simp), sl15, (Cell.slots_setSlot_ne _ ap).trans sl13, n1.keep al (p15.other hne (p13.other hne n7)), n2, by rw [al.findClass]; exact n3, n4, n5, fun y c h1 h2 => p15.other h1 (p13.other h1 (by rw [q11]; exact n6 y c h2)), by rw [p15.2.2, p13.2.2, q11]; exact z8⟩, fun fs hl => c16.trans (X15.returnOut hexec hret (hb hbytes d57) hl)⟩
end New4
namespace New1
def yN : MethodName := ⟨"java/lang/String", "<init>", "([C)V"⟩
abbrev yB : ByteArray := jdk_42_method_3_code
theorem d0 : decode yB 0 = .ok (.aload_n 0, 1) := by decide +kernel
theorem d1 : decode yB 1 = .ok (.aload_n 1, 1) := by decide +kernel
theorem d2 : decode yB 2 = .ok (.iconst 0, 1) := by decide +kernel
theorem d3 : decode yB 3 = .ok (.aload_n 1, 1) := by decide +kernel
theorem d4 : decode yB 4 = .ok (.arraylength, 1) := by decide +kernel
theorem d5 : decode yB 5 = .ok (.aconst_null, 1) := by decide +kernel
theorem d6 : decode yB 6 = .ok (.invokespecial 27, 3) := by decide +kernel
theorem d9 : decode yB 9 = .ok (.return_, 1) := by decide +kernel
def site : List Cond := [New4.tab] ++ initW "java/lang/String" 27 New4.yN
def tab : Cond := tabOf yN yB 2 none site
def P (a : Addr) (D : Cell) (fV fC : Field) (b : Addr) (A : Cell) (z : Int32) (args : Array Value) (s : State) : Prop := args = #[.ref a, .ref b] ∧ Blank "java/lang/String" a D s ∧ Found "java/lang/String" "value" "[B" fV s ∧ Found "java/lang/String" "coder" "B" fC s ∧ Ch b A s ∧ StaticIs s "java/lang/String" "COMPACT_STRINGS" "Z" (.int z) ∧ ¬ z = 0 ∧ 0 < A.slots.size ∧ A.slots.size ≤ 536870912 ∧ ∀ i, i < A.slots.size → ¬ 255 < cv A i
def E (a : Addr) (D : Cell) (fV fC : Field) (A : Cell) (r : Option Value) (s u : State) : Prop := Got a D fV fC A 0 A.slots.size r s u
/-- new String(chars), not empty, no char above 255: a Latin-1 String of their low bytes -/
theorem law (l : Launch) (a : Addr) (D : Cell) (fV fC : Field) (b : Addr) (A : Cell) (z : Int32) : Law l yN 2 1 3 52 yB 2 none site (P a D fV fC b A z) (E a D fV fC A) [⟨a, fC.slot⟩, ⟨a, fV.slot⟩] 1 A.slots.size := by
  refine Law.of_walk (plainFor_of_name (by decide +kernel)) (by decide +kernel) (by decide +kernel) (by decide) (fun _ _ h => by rw [h.1]; rfl) (fun _ U U' hal hh h => ⟨h.1, h.2.1.mv hal hh, h.2.2.1.al hal, h.2.2.2.1.al hal, h.2.2.2.2.1.mv hal hh, h.2.2.2.2.2.1.there hal hh, h.2.2.2.2.2.2⟩) (fun r U U' V V' h1 hal h2 h => Got.mv r U U' V V' h1 hal h2 h) ?_
  intro p e s m args below meth c s₁ X0 hexec hbytes hml hret hlk hnm hown hh0 W hP
  obtain ⟨rfl, hB, f1, f2, hA, s1, hz, l0, l2, hp⟩ := hP
  have c1 : Steps p.tables e below (s₁.setTop (entryFrame m #[.ref a, .ref b] 2)) (s₁.setTop (mkF m 0 #[.val (.ref a), .val (.ref b)] [])) := entry rfl
  have c2 : Steps p.tables e below (s₁.setTop (entryFrame m #[.ref a, .ref b] 2)) (s₁.setTop (mkF m 6 #[.val (.ref a), .val (.ref b)] [.null, .int (Int32.ofNat A.slots.size), .int 0, .ref b, .ref a])) := c1.trans (by
    refine XS.aloadN X0.here hexec rfl (hb hbytes d0) rfl rfl ?_
    refine XS.aloadN X0.here hexec rfl (hb hbytes d1) rfl rfl ?_
    refine iconstV X0.here hexec rfl 0 (hb hbytes d2) (by decide) ?_
    refine XS.aloadN X0.here hexec rfl (hb hbytes d3) rfl rfl ?_
    refine X0.alen hexec (hA.1.mv X0.warmed.alike hh0) rfl rfl (hb hbytes d4) ?_
    refine XS.aconstNull X0.here hexec rfl (hb hbytes d5) ?_
    exact Steps.refl _)
  obtain ⟨v3, T3, X3, E3, g3⟩ := X0.callN hexec (New4.law l a D fV fC b A z 0 A.slots.size) rfl hown (wks W (initW "java/lang/String" 27 New4.yN)) (W New4.tab (by simp only [site, List.mem_cons, List.mem_append, true_or, or_true])) (W := 0) (Nat.le_of_ble_eq_true rfl) (Nat.le_of_ble_eq_true rfl) (Nat.le_refl _) (by show 0 + A.slots.size ≤ A.slots.size; omega) (g := (mkF m 6 #[.val (.ref a), .val (.ref b)] [.null, .int (Int32.ofNat A.slots.size), .int (Int32.ofNat 0), .ref b, .ref a])) rfl (by rw [hml]; rfl) c2 (argsL := [.ref b, .int (Int32.ofNat 0), .int (Int32.ofNat A.slots.size), .null]) (rest := []) rfl rfl (by show 2 * 0 + 0 ≤ _; decide) (hb hbytes d6) (⟨rfl, hB.mv X0.warmed.alike hh0, f1.al X0.warmed.alike, f2.al X0.warmed.alike, hA.mv X0.warmed.alike hh0, s1.there X0.warmed.alike hh0, hz, l0, by omega, l2, fun i hi => by rw [Nat.zero_add]; exact hp i hi⟩)
  have e0 := Got.mv _ s₁ s _ _ hh0.symm (Vm.Alike.refl _) rfl E3
  obtain rfl := e0.1
  have c4 : Steps p.tables e below (s₁.setTop (entryFrame m #[.ref a, .ref b] 2)) (T3.setTop (mkF m 9 #[.val (.ref a), .val (.ref b)] [])) := g3
  exact ⟨T3, none, _, _, _, X3, by simp, rfl, by omega, (fun _ => rfl), e0, fun fs hl => c4.trans (X3.returnOut hexec hret (hb hbytes d9) hl)⟩
theorem pays {l : Launch} {R : Room} {p : Program} {e : Env} {below : List Frame} {s : State} {sargs : Array Value} {len W : Nat} (a : Addr) (D : Cell) (fV fC : Field) (b : Addr) (A : Cell) (z : Int32) (htab : tab.before sargs s = true) (hfr : 4 ≤ R.frames) (hlo : W + 65 ≤ R.locals) :
    Back l R p e below s sargs yN len W (fun A₁ a₁ => A₁.cells + 1 ≤ R.cells ∧ A₁.slots + A.slots.size ≤ R.slots ∧ P a D fV fC b A z a₁ A₁.U) (fun A₁ _ v₁ B₁ => E a D fV fC A v₁ A₁.U B₁.U ∧ B₁.locs = A₁.locs ++ [⟨a, fC.slot⟩, ⟨a, fV.slot⟩] ∧ B₁.cells = A₁.cells + 1 ∧ B₁.slots = A₁.slots + A.slots.size) :=
  (law l a D fV fC b A z).pays htab hfr (by omega)
end New1
/-- the byte, read back as charAt reads it, is the char -/
theorem lo8_mask {x : Int32} (h0 : ¬ x < 0) (h1 : ¬ 255 < x) : lo8 x &&& 255 = x := by
  have t : ∀ k : Fin 256, lo8 (Int32.ofNat k.val) &&& 255 = Int32.ofNat k.val := by decide +kernel
  rw [Int32.lt_iff_toInt_lt] at h0 h1
  have e0 : (0 : Int32).toInt = 0 := rfl
  have e1 : (255 : Int32).toInt = 255 := rfl
  obtain ⟨k, hk⟩ : ∃ k : Nat, x.toInt = k := ⟨x.toInt.toNat, by omega⟩
  have hx : x = Int32.ofNat k := Int32.toInt_inj.mp (by rw [hk, Int32.toInt_ofNat_small (by omega)])
  rw [hx]
  exact t ⟨k, by omega⟩
end StrChars
namespace StrChars.Road
open Jvm Sem ClassFile Op Lib Jvm.Stand Jvm.Free Jvm.Free.XT
open Jvm.Lib.Cold (StaticIs)
abbrev ST : String := "java/lang/String"
/-- every table word that New1's law asks, flat -/
abbrev words : List Jvm.Cond := [.code New1.yN New1.yB 2 none, .initialized ST, .methodLink ST 27 New4.yN, .instanceMethod New4.yN,
  .code New4.yN New4.yB 6 none, .fieldLink ST 38 ST "COMPACT_STRINGS" "Z", .laysFinal ST ST "value" "[B", .fieldLink ST 9 ST "value" "[B", .laysFinal ST ST "coder" "B", .fieldLink ST 15 ST "coder" "B",
  .methodLink ST 1 Lib.objectInit, .instanceMethod Lib.objectInit, .code Lib.objectInit ⟨#[0xb1]⟩ 1 none, .methodLink ST 177 Cmp3.yN, .static Cmp3.yN, .methodLink ST 47 CodL.yN, .static CodL.yN,
  .code Cmp3.yN Cmp3.yB 6 (some (.array .byte)), .initialized U16, .arrayClass .byte, .methodLink U16 115 Cmp5.yN, .static Cmp5.yN, .code Cmp5.yN Cmp5.yB 7 (some .int), .code CodL.yN CodL.yB 2 (some .byte)]
theorem tab_of {a : Array Value} {s : State} (h : ∀ w ∈ words, w.before a s = true) : New1.tab.before a s = true := by
  have h5 : Cmp5.tab.before a s = true := unparts (wk h (.code Cmp5.yN Cmp5.yB 7 (some .int))) (wks h (.initialized Cmp5.yN.cls :: Cmp5.site))
  have hc : CodL.tab.before a s = true := unparts (wk h (.code CodL.yN CodL.yB 2 (some .byte))) (wks h (.initialized CodL.yN.cls :: CodL.site))
  have q5 : ∀ w ∈ Cmp5.tab :: words, w.before a s = true := fun w hw => (List.mem_cons.mp hw).elim (fun e => e ▸ h5) (h w)
  have h3 : Cmp3.tab.before a s = true := unparts (wk q5 (.code Cmp3.yN Cmp3.yB 6 (some (.array .byte)))) (wks q5 (.initialized Cmp3.yN.cls :: Cmp3.site))
  have q3 : ∀ w ∈ Cmp3.tab :: CodL.tab :: words, w.before a s = true := fun w hw => (List.mem_cons.mp hw).elim (fun e => e ▸ h3) fun hw => (List.mem_cons.mp hw).elim (fun e => e ▸ hc) (h w)
  have h4 : New4.tab.before a s = true := unparts (wk q3 (.code New4.yN New4.yB 6 none)) (wks q3 (.initialized New4.yN.cls :: New4.site))
  have q4 : ∀ w ∈ New4.tab :: words, w.before a s = true := fun w hw => (List.mem_cons.mp hw).elim (fun e => e ▸ h4) (h w)
  exact unparts (wk q4 (.code New1.yN New1.yB 2 none)) (wks q4 (.initialized New1.yN.cls :: New1.site))
/-- the words ride from the start Z to the walk's own state -/
theorem moved {Z s : State} {a0 args : Array Value} (hZ : Z.Warmed39 s.vm) (hw : ∀ d ∈ words, d.before a0 Z = true) : ∀ d ∈ words, d.before args s = true := fun d hd => by
  have q := hw d hd
  have t : ∀ d ∈ words, d = .arrayClass .byte ∨ (d.onTables && d.keepsFace) = true := by decide +kernel
  rcases t d hd with rfl | t
  · exact RoadKit.mvA hZ q
  · exact RoadKit.mv hZ q t
/-- WHAT COMES BACK, over the tables of the start Z: h the heap at the call, h' behind it -/
def Q (Z : State) (x : Addr) (A : Cell) (h : Heap) (v : Option Value) (h' : Heap) (L : List Loc) : Prop := v = none ∧ (∀ y ∈ L, y.base = x) ∧ RoadKit.Keep h h' [x] ∧ h'.size = h.size + 1 ∧ RoadKit.Exa Z h' x ST ∧ RoadKit.Fld Z h' x ST "value" "[B" (.ref h.size) ∧ RoadKit.Fld Z h' x ST "coder" "B" (.int 0) ∧
  (∃ V : Cell, RoadKit.Arr Z h' h.size V .byte ∧ V.vm = .none ∧ Z.vm.findClass "[B" = some V.cls ∧ V.slots.size = A.slots.size ∧ ∀ j, j < A.slots.size → V.slots[j]? = some (.int (lo8 (cv A j)))) ∧
  ∀ (O n d : String) (w : Value), RoadKit.Fld Z h x O n d w → RoadKit.slotOf Z O n d ≠ RoadKit.slotOf Z ST "value" "[B" → RoadKit.slotOf Z O n d ≠ RoadKit.slotOf Z ST "coder" "B" → RoadKit.Fld Z h' x O n d w
/-- **new String(chars) AT A CALL, IN THE ROAD'S FORM**: for specialBack behind newO: x the fresh String, b the char[] with the cell A -/
theorem back {p : Program} {l : Launch} {e : Env} {R : Room} {s : State} {args : Array Value} {below : List Frame} {len W : Nat} {Z : State} {a0 : Array Value} {h : Heap} (hZ : Z.Warmed39 s.vm) (hw : ∀ d ∈ words, d.before a0 Z = true) {kI : Nat} (wi : (Jvm.Cond.instantiable ST kI).before a0 Z = true)
    {x b : Addr} {A : Cell} {z : Int32} {v0 c0 : Value} (E : RoadKit.Exa Z h x ST) (V : RoadKit.Fld Z h x ST "value" "[B" v0) (C : RoadKit.Fld Z h x ST "coder" "B" c0) (K : RoadKit.Arr Z h b A .char) (hty : Typed .char A) (S : RoadKit.Sta Z h ST "COMPACT_STRINGS" "Z" (.int z)) (hz : ¬ z = 0)
    (l0 : 0 < A.slots.size) (l2 : A.slots.size ≤ 536870912) (hp : ∀ i, i < A.slots.size → ¬ 255 < cv A i) (hfr : 4 ≤ R.frames) (hlo : W + 65 ≤ R.locals) :
    Back l R p e below s args New1.yN len W (fun P a => a = #[.ref x, .ref b] ∧ P.U.heap = h ∧ P.cells + 1 ≤ R.cells ∧ P.slots + A.slots.size ≤ R.slots)
      (fun P _ v B => ∃ L, Q Z x A h v B.U.heap L ∧ B.locs = P.locs ++ L ∧ B.cells = P.cells + 1 ∧ B.slots = P.slots + A.slots.size) := by
  intro m meth c P g ig mk a X hg hsize hdg hW hn hp'
  obtain ⟨rfl, rfl, r1, r2⟩ := hp'
  have al : Z.vm.Alike P.U.vm := hZ.alike.trans X.warmed.alike
  obtain ⟨D, cfV, kV, iV, fV, hD, gV, stV, knV, obV, asV, slV⟩ := id V
  obtain ⟨D', cfC, kC, iC, fC, hD', gC, stC, -, -, asC, slC⟩ := id C
  cases hD.symm.trans hD'
  obtain ⟨D2, kD, e1, e2, e3, e4, e5⟩ := id E
  cases hD.symm.trans e1
  obtain ⟨c2, k2, i1, i2, i3, -⟩ := Cond.instantiable_spec wi
  cases e2.symm.trans i1
  cases e3.symm.trans i2
  obtain ⟨kU, u1, u2⟩ := al.2.2 _ _ e3
  have hB : Blank ST x D P.U := ⟨hD, ⟨knV, fun q hq => by rw [hq] at obV; cases obV⟩, by rw [al.findClass]; exact e2, kU, u1, by rw [u2]; exact i3, by rw [u2]; exact e5 i3⟩
  have F1 : Found ST "value" "[B" fV P.U := ⟨SBG.found_only al ⟨cfV, kV, iV, gV⟩, stV⟩
  have F2 : Found ST "coder" "B" fC P.U := ⟨SBG.found_only al ⟨cfC, kC, iC, gC⟩, stC⟩
  have hA : Ch b A P.U := ⟨⟨K.1, State.isArrayOf_alike al K.2.1, K.2.2, by omega⟩, hty⟩
  have hS : StaticIs P.U ST "COMPACT_STRINGS" "Z" (.int z) := by
    obtain ⟨cfS, iS, kS, fS, st, cS, t1, t2, t3, t4, t5, t6, t7⟩ := S
    exact StaticIs.there (s := { Z with heap := P.U.heap }) ⟨cfS, iS, kS, fS, st, cS, t1, t2, t3, t4, t5, (fun q => by rw [q] at t6; cases t6), t7⟩ al rfl
  obtain ⟨v, B, X', ⟨⟨hv, E', V', q1, q2, q3, q4, q5, q6, q7, q8, q9, q10, q11⟩, hl, hc, hs⟩, st⟩ := New1.pays x D fV fC b A z (tab_of (moved hZ hw)) hfr hlo m meth c P g ig mk _ X hg hsize hdg hW hn ⟨r1, r2, rfl, hB, F1, F2, hA, hS, hz, l0, l2, hp⟩
  have al' : Z.vm.Alike B.U.vm := hZ.alike.trans X'.warmed.alike
  have hsz : E'.slots.size = D.slots.size := by
    obtain ⟨-, -, -, kB, w1, w2, w3⟩ := q1
    obtain ⟨kB', y1, y2⟩ := al'.2.2 _ _ e3
    rw [q2.2.1] at w1
    cases w1.symm.trans y1
    rw [w3, e5 i3, y2]
  refine ⟨v, B, X', ⟨_, ⟨hv, ?_, ⟨by omega, fun y cy hy hn' => q10 y cy (by simpa using hn') hy, fun y cy hy => ?_⟩, q11, ⟨E', _, q1.1, by rw [q2.2.1]; exact e2, by rw [q2.2.1]; exact e3, by rw [q2.1]; exact obV, fun _ => by rw [hsz]; exact e5 i3⟩,
    ⟨E', cfV, kV, iV, fV, q1.1, gV, stV, by rw [q2.1]; exact knV, by rw [q2.1]; exact obV, by rw [q2.2.1]; exact asV, q3⟩, ⟨E', cfC, kC, iC, fC, q1.1, gC, stC, by rw [q2.1]; exact knV, by rw [q2.1]; exact obV, by rw [q2.2.1]; exact asC, q4⟩,
    ⟨V', ⟨q5.1, State.isArrayOf_alike al'.symm q5.2.1, q5.2.2.1⟩, q6, by rw [← al'.findClass]; exact q7, q8, fun j hj => by have := q9 j hj; rwa [Nat.zero_add] at this⟩, fun O n d w F n1 n2 => ?_⟩, hl, hc, hs⟩, st⟩
  · intro y hy
    simp only [List.mem_cons, List.not_mem_nil, or_false] at hy
    rcases hy with rfl | rfl <;> rfl
  · by_cases q : y = x
    · subst q
      cases hD.symm.trans hy
      exact ⟨E', q1.1, q2.2.1, q2.1, hsz⟩
    · exact ⟨cy, q10 y cy q hy, rfl, rfl, rfl⟩
  · obtain ⟨D3, cf, k, i, f, g1, g2, g3, g4, g5, g6, g7⟩ := F
    cases hD.symm.trans g1
    simp only [RoadKit.slotOf, g2, gV, gC, Option.map_some, Option.getD_some] at n1 n2
    exact ⟨E', cf, k, i, f, q1.1, g2, g3, by rw [q2.1]; exact g4, by rw [q2.1]; exact g5, by rw [q2.2.1]; exact g6, by rw [q2.2.2 f.slot (by simp [n1, n2])]; exact g7⟩
end StrChars.Road
namespace StrChars.Road
open Jvm Sem ClassFile Op Lib Jvm.Stand Jvm.Free Jvm.Free.XT
/-- WHAT COMES BACK, the byte[] as a list of values -/
def QA (Z : State) (x : Addr) (zn : Int32) (cs : List Int32) (h : Heap) (v : Option Value) (h' : Heap) (L : List Loc) : Prop := v = none ∧ (∀ y ∈ L, y.base = x) ∧ RoadKit.Keep h h' [x] ∧ h'.size = h.size + 1 ∧ RoadKit.Exa Z h' x ST ∧ RoadKit.Fld Z h' x ST "value" "[B" (.ref h.size) ∧ RoadKit.Fld Z h' x ST "coder" "B" (.int 0) ∧
  (∃ kb, Z.vm.findClass "[B" = some kb ∧ RoadKit.Arv Z h' h.size kb .byte zn (cs.map fun c => .int (lo8 c)) (.int 0)) ∧
  ∀ (O n d : String) (w : Value), RoadKit.Fld Z h x O n d w → RoadKit.slotOf Z O n d ≠ RoadKit.slotOf Z ST "value" "[B" → RoadKit.slotOf Z O n d ≠ RoadKit.slotOf Z ST "coder" "B" → RoadKit.Fld Z h' x O n d w
/-- **new String(chars) AT A CALL, THE ARRAYS AS LISTS**: the char[] at b holds cs, not empty, no char above 255 -/
theorem backArv {p : Program} {l : Launch} {e : Env} {R : Room} {s : State} {args : Array Value} {below : List Frame} {len W : Nat} {Z : State} {a0 : Array Value} {h : Heap} (hZ : Z.Warmed39 s.vm) (hw : ∀ d ∈ words, d.before a0 Z = true) {kI : Nat} (wi : (Jvm.Cond.instantiable ST kI).before a0 Z = true)
    {x b : Addr} {k : ClassId} {zn z : Int32} {cs : List Int32} {dv v0 c0 : Value} (E : RoadKit.Exa Z h x ST) (V : RoadKit.Fld Z h x ST "value" "[B" v0) (C : RoadKit.Fld Z h x ST "coder" "B" c0) (K : RoadKit.Arv Z h b k .char zn (cs.map Value.int) dv) (S : RoadKit.Sta Z h ST "COMPACT_STRINGS" "Z" (.int z)) (hz : ¬ z = 0)
    (hlen : zn.toNatClampNeg = cs.length) (h0 : 0 < cs.length) (hbig : cs.length ≤ 536870912) (hall : ∀ c ∈ cs, ¬ 255 < c) (hfr : 4 ≤ R.frames) (hlo : W + 65 ≤ R.locals) :
    Back l R p e below s args New1.yN len W (fun P a => a = #[.ref x, .ref b] ∧ P.U.heap = h ∧ P.cells + 1 ≤ R.cells ∧ P.slots + cs.length ≤ R.slots)
      (fun P _ v B => ∃ L, QA Z x zn cs h v B.U.heap L ∧ B.locs = P.locs ++ L ∧ B.cells = P.cells + 1 ∧ B.slots = P.slots + cs.length) := by
  obtain ⟨A, K1, K2, K3, K4, K5, K6⟩ := K
  have e : A.slots.size = cs.length := K3.trans hlen
  have hat : ∀ (i : Nat) (hi : i < cs.length), A.slots[i]? = some (.int cs[i]) := fun i hi => by rw [K5 i (by omega)]; simp [List.getD_eq_getElem?_getD, hi]
  have hcv : ∀ (i : Nat) (hi : i < cs.length), cv A i = cs[i] := fun i hi => by unfold cv; rw [hat i hi]
  have hty : Typed .char A := fun i v hv => by
    have hi : i < A.slots.size := (Array.getElem?_eq_some_iff.mp hv).1
    have q := K5 i hi
    rw [hv] at q
    rw [Option.some.inj q]
    exact K6 i hi
  refine Back.mono (back hZ hw wi E V C K1 hty S hz (by omega) (by omega) (fun i hi => by rw [hcv i (by omega)]; exact hall _ (List.getElem_mem _)) hfr hlo) (fun P a hp => ⟨hp.1, hp.2.1, hp.2.2.1, by rw [e]; exact hp.2.2.2⟩) (fun P a v B hp hq => ?_)
  obtain ⟨L, ⟨q1, q2, q3, q4, q5, q6, q7, ⟨V', v1, v2, v3, v4, v5⟩, q9⟩, hl, hc, hs⟩ := hq
  refine ⟨L, ⟨q1, q2, q3, q4, q5, q6, q7, ⟨V'.cls, v3, V', v1, rfl, by rw [v4, e, hlen], K4, fun i hi => ?_, fun i hi => ?_⟩, q9⟩, hl, hc, by rw [hs, e]⟩
  · have hi' : i < cs.length := by omega
    rw [v5 i (by omega), hcv i hi']; simp [List.getD_eq_getElem?_getD, hi']
  · have hi' : i < cs.length := by omega
    simp only [List.getD_eq_getElem?_getD, List.getElem?_map, List.getElem?_eq_getElem hi', Option.map_some, Option.getD_some]
    exact fits_lo8 _
end StrChars.Road
namespace StrChars.Road
open Jvm Sem ClassFile Op Lib Jvm.Stand Jvm.Free Jvm.Free.XT
/-- WHAT COMES BACK, in the writer's own shape -/
def QV (Z : State) (x : Addr) (N : Int32) (bs : List Int32) (h : Heap) (n0 : Nat) (v : Option Value) (h' : Heap) (L : List Loc) : Prop := v = none ∧ RoadKit.Fr n0 L ∧ RoadKit.Keep h h' [x] ∧ RoadKit.Exa Z h' x ST ∧ RoadKit.Fld Z h' x ST "coder" "B" (.int 0) ∧
  ∃ (t : Addr) (kb : ClassId), n0 ≤ t ∧ h.size ≤ t ∧ ¬ t = x ∧ RoadKit.Fld Z h' x ST "value" "[B" (.ref t) ∧ RoadKit.Arv Z h' t kb .byte N (bs.map Value.int) (.int 0)
/-- **new String(chars) AT A CALL, FOR THE WRITER**: a char[] of n known ints, each 0 to 255 -/
theorem backV {p : Program} {l : Launch} {e : Env} {R : Room} {s : State} {args : Array Value} {below : List Frame} {len W : Nat} {Z : State} {a0 : Array Value} {h : Heap} (hZ : Z.Warmed39 s.vm) (hw : ∀ d ∈ words, d.before a0 Z = true) {kI : Nat} (wi : (Jvm.Cond.instantiable ST kI).before a0 Z = true)
    {x b : Addr} {kC : ClassId} {cs bs : List Int32} {d v0 c0 : Value} {z N : Int32} {n n0 : Nat} (hx0 : n0 ≤ x) (hh0 : n0 ≤ h.size) (E : RoadKit.Exa Z h x ST) (V : RoadKit.Fld Z h x ST "value" "[B" v0) (C : RoadKit.Fld Z h x ST "coder" "B" c0) (K : RoadKit.Arv Z h b kC .char N (cs.map Value.int) d) (S : RoadKit.Sta Z h ST "COMPACT_STRINGS" "Z" (.int z)) (hz : ¬ z = 0)
    (hn : cs.length = n) (hN : N = Int32.ofNat n) (l0 : 0 < n) (l2 : n ≤ 4000) (hp : ∀ c ∈ cs, ¬ c < 0 ∧ ¬ (255 : Int32) < c) (hb : bs = cs.map (fun c => c.toInt8.toInt32)) (hfr : 4 ≤ R.frames) (hlo : W + 65 ≤ R.locals) :
    Back l R p e below s args (⟨"java/lang/String", "<init>", "([C)V"⟩ : MethodName) len W (fun P a => a = #[.ref x, .ref b] ∧ P.U.heap = h ∧ P.cells + 1 ≤ R.cells ∧ P.slots + n ≤ R.slots)
      (fun P _ v B => ∃ L, QV Z x N bs h n0 v B.U.heap L ∧ B.locs = P.locs ++ L ∧ B.cells = P.cells + 1 ∧ B.slots = P.slots + n) := by
  subst hn hN hb
  refine Back.mono (backArv hZ hw wi E V C K S hz (n32 (by omega)) l0 (by omega) (fun c hc => (hp c hc).2) hfr hlo) (fun P a hp => hp) (fun P a v B hp hq => ?_)
  obtain ⟨L, ⟨q1, q2, q3, q4, q5, q6, q7, ⟨kb, v1, v2⟩, q9⟩, hl, hc, hs⟩ := hq
  exact ⟨L, ⟨q1, fun y hy => by rw [q2 y hy]; exact hx0, q3, q5, q7, h.size, kb, hh0, Nat.le_refl _, Nat.ne_of_gt E.lt, q6, by rw [List.map_map]; exact v2⟩, hl, hc, hs⟩
end StrChars.Road
namespace StrChars
open Jvm Sem ClassFile Op Lib Jvm.Stand Jvm.Free.XT Jvm.Free.ALB Jvm.Free.JM Jvm.Free
open Jvm.Lib.Cold (StaticIs)
def hi8 (x : Int32) : Int32 := lo8 (x >>> ((8 : Int32) &&& 31))
/-- what StringUTF16.getChar makes of two bytes -/
def pairCh (u v : Int32) : Int32 := (((u &&& 255) <<< ((0 : Int32) &&& 31)) ||| ((v &&& 255) <<< ((8 : Int32) &&& 31))).toUInt32.toUInt16.toUInt32.toInt32
theorem shr0 (c : Int32) : c >>> ((0 : Int32) &&& 31) = c := by
  have e : ((0 : Int32) &&& 31) = 0 := by decide
  rw [e]
  apply Int32.toBitVec_inj.mp
  rw [Int32.toBitVec_shiftRight]
  have e1 : ((0 : Int32).toBitVec.smod 32) = 0#32 := by decide
  rw [e1, BitVec.sshiftRight_eq']
  exact BitVec.sshiftRight_zero
theorem lo8_and (x : Int32) : (lo8 x &&& 255).toBitVec.toNat = x.toBitVec.toNat % 256 := by
  have h : (lo8 x).toBitVec = (x.toBitVec.signExtend 8).signExtend 32 := by rw [lo8, Int8.toBitVec_toInt32, Int32.toBitVec_toInt8]
  rw [Int32.toBitVec_and, BitVec.toNat_and, h]
  have e : ((x.toBitVec.signExtend 8).signExtend 32).toNat % 256 = x.toBitVec.toNat % 256 := by
    rw [BitVec.toNat_signExtend]
    have hlt := x.toBitVec.isLt
    simp only [BitVec.toNat_setWidth, BitVec.toNat_signExtend]
    split <;> split <;> omega
  rw [← e]
  exact Nat.and_two_pow_sub_one_eq_mod _ 8
theorem pair_says {c : Int32} (h0 : ¬ c < 0) (h1 : ¬ 65535 < c) : pairCh (lo8 c) (hi8 c) = c := by
  rw [Int32.lt_iff_toInt_lt] at h0 h1
  have e0 : (0 : Int32).toInt = 0 := rfl
  have e1 : (65535 : Int32).toInt = 65535 := rfl
  have hc : c.toInt = c.toBitVec.toNat := by
    have := c.toBitVec.isLt
    have e : c.toInt = c.toBitVec.toInt := rfl
    rw [e] at h0 h1
    rw [e]
    rw [BitVec.toInt_eq_toNat_cond] at h0 h1 ⊢
    split at h0 <;> split <;> omega
  have hn : c.toBitVec.toNat < 65536 := by omega
  have a1 := lo8_and c
  have a2 : (hi8 c &&& 255).toBitVec.toNat = c.toBitVec.toNat / 256 := by
    rw [hi8, lo8_and]
    have e : ((8 : Int32) &&& 31) = 8 := by decide
    rw [e, Int32.toBitVec_shiftRight]
    have e2 : ((8 : Int32).toBitVec.smod 32) = 8#32 := by decide
    rw [e2, BitVec.sshiftRight_eq', BitVec.toNat_sshiftRight_of_msb_false (by rw [BitVec.msb_eq_false_iff_two_mul_lt]; omega)]
    show c.toBitVec.toNat >>> 8 % 256 = _
    rw [Nat.shiftRight_eq_div_pow]
    omega
  unfold pairCh
  apply Int32.toBitVec_inj.mp
  apply BitVec.eq_of_toNat_eq
  have f0 : ((0 : Int32) &&& 31) = 0 := by decide
  have f8 : ((8 : Int32) &&& 31) = 8 := by decide
  rw [f0, f8]
  have g : (((lo8 c &&& 255) <<< (0 : Int32)) ||| ((hi8 c &&& 255) <<< (8 : Int32))).toBitVec.toNat = c.toBitVec.toNat := by
    rw [Int32.toBitVec_or, Int32.toBitVec_shiftLeft, Int32.toBitVec_shiftLeft]
    have s0 : ((0 : Int32).toBitVec.smod 32) = 0#32 := by decide
    have s8 : ((8 : Int32).toBitVec.smod 32) = 8#32 := by decide
    rw [s0, s8, BitVec.toNat_or]
    simp only [BitVec.shiftLeft_eq', BitVec.toNat_shiftLeft, a1, a2]
    show (c.toBitVec.toNat % 256) <<< 0 % 2 ^ 32 ||| (c.toBitVec.toNat / 256) <<< 8 % 2 ^ 32 = _
    rw [Nat.shiftLeft_zero, Nat.mod_eq_of_lt (show c.toBitVec.toNat % 256 < 2 ^ 32 by omega), Nat.mod_eq_of_lt (show (c.toBitVec.toNat / 256) <<< 8 < 2 ^ 32 by rw [Nat.shiftLeft_eq]; omega), Nat.or_comm, ← Nat.shiftLeft_add_eq_or_of_lt (by omega), Nat.shiftLeft_eq]
    omega
  show BitVec.toNat (((((lo8 c &&& 255) <<< (0 : Int32)) ||| ((hi8 c &&& 255) <<< (8 : Int32))).toBitVec.setWidth 16).setWidth 32) = _
  rw [BitVec.toNat_setWidth, BitVec.toNat_setWidth, g]
  omega
end StrChars
namespace StrChars
open Jvm Sem ClassFile Op Lib Jvm.Stand Jvm.Free.XT Jvm.Free.ALB Jvm.Free.JM Jvm.Free
open Jvm.Lib.Cold (StaticIs)
theorem shr1 {n : Nat} (h : 2 * n < 2 ^ 31) : Int32.ofNat (2 * n) >>> ((1 : Int32) &&& 31) = Int32.ofNat n := by
  have e : ((1 : Int32) &&& 31) = 1 := by decide
  rw [e]
  apply Int32.toBitVec_inj.mp
  rw [Int32.toBitVec_shiftRight]
  have e1 : ((1 : Int32).toBitVec.smod 32) = 1#32 := by decide
  have hm : (BitVec.ofNat 32 (2 * n)).toNat = 2 * n := by rw [BitVec.toNat_ofNat, Nat.mod_eq_of_lt (by omega)]
  rw [e1, BitVec.sshiftRight_eq']
  apply BitVec.eq_of_toNat_eq
  show ((BitVec.ofNat 32 (2 * n)).sshiftRight 1).toNat = (BitVec.ofNat 32 n).toNat
  rw [BitVec.toNat_sshiftRight_of_msb_false (by rw [BitVec.msb_eq_false_iff_two_mul_lt, hm]; omega), hm, BitVec.toNat_ofNat, Nat.shiftRight_eq_div_pow]
  omega
/-- charAt's cast of a byte read back -/
def chr8 (u : Int32) : Int32 := (u &&& 255).toUInt32.toUInt16.toUInt32.toInt32
theorem chr8_lo8 {c : Int32} (h0 : ¬ c < 0) (h1 : ¬ 255 < c) : chr8 (lo8 c) = c := by
  have t : ∀ k : Fin 256, (Int32.ofNat k.val).toUInt32.toUInt16.toUInt32.toInt32 = Int32.ofNat k.val := by decide +kernel
  unfold chr8
  rw [lo8_mask h0 h1]
  rw [Int32.lt_iff_toInt_lt] at h0 h1
  have e0 : (0 : Int32).toInt = 0 := rfl
  have e1 : (255 : Int32).toInt = 255 := rfl
  obtain ⟨k, hk⟩ : ∃ k : Nat, c.toInt = k := ⟨c.toInt.toNat, by omega⟩
  have hx : c = Int32.ofNat k := Int32.toInt_inj.mp (by rw [hk, Int32.toInt_ofNat_small (by omega)])
  rw [hx]
  exact t ⟨k, by omega⟩
theorem narrow_ch {c : Int32} (h0 : ¬ c < 0) (h1 : ¬ 65535 < c) : narrow .char (.int c) = .int c := by
  have q : narrow .char (.int (pairCh (lo8 c) (hi8 c))) = .int (pairCh (lo8 c) (hi8 c)) := narrow_c _
  rwa [pair_says h0 h1] at q
/-- the array's cell V codes the n chars f 0 .. f (n - 1) by the coder cd, as the JDK does: coder 1 just where some char is above 255 -/
def Cod (cd : Int32) (n : Nat) (f : Nat → Int32) (V : Cell) : Prop := (cd = 0 ∧ V.slots.size = n ∧ ∀ j, j < n → V.slots[j]? = some (.int (lo8 (f j))) ∧ ¬ 255 < f j) ∨ (cd = 1 ∧ V.slots.size = 2 * n ∧ (∀ j, j < n → V.slots[2 * j]? = some (.int (lo8 (f j))) ∧ V.slots[2 * j + 1]? = some (.int (hi8 (f j)))) ∧ ∃ j, j < n ∧ 255 < f j)
theorem Cod.cd {cd : Int32} {n : Nat} {f : Nat → Int32} {V : Cell} (h : Cod cd n f V) : cd = 0 ∨ cd = 1 := h.imp (fun q => q.1) fun q => q.1
theorem Cod.len {cd : Int32} {n : Nat} {f : Nat → Int32} {V : Cell} (h : Cod cd n f V) (hs : V.slots.size < 2 ^ 31) : Int32.ofNat V.slots.size >>> (cd &&& 31) = Int32.ofNat n := by
  rcases h with ⟨rfl, h, -⟩ | ⟨rfl, h, -⟩
  · rw [shr0, h]
  · rw [h, shr1 (by omega)]
/-- **x is a String of the n chars f 0 .. f (n - 1)**, Latin-1 or UTF-16; its array at t has the cell V -/
def Txt (x t : Addr) (V : Cell) (cd : Int32) (n : Nat) (f : Nat → Int32) (U : State) : Prop := Exact "java/lang/String" x U ∧ Has x "java/lang/String" "value" "[B" (.ref t) U ∧ Has x "java/lang/String" "coder" "B" (.int cd) U ∧ XT.Arr .byte t V U ∧ Cod cd n f V ∧ ∀ j, j < n → ¬ f j < 0 ∧ ¬ 65535 < f j
theorem Txt.mv {x t : Addr} {V : Cell} {cd : Int32} {n : Nat} {f : Nat → Int32} {U U' : State} (h : Txt x t V cd n f U) (hal : U.vm.Alike U'.vm) (hh : U'.heap = U.heap) : Txt x t V cd n f U' := ⟨h.1.mv hal hh, h.2.1.mv hal hh, h.2.2.1.mv hal hh, h.2.2.2.1.mv hal hh, h.2.2.2.2⟩
namespace Cdr
def yN : MethodName := ⟨"java/lang/String", "coder", "()B"⟩
abbrev yB : ByteArray := jdk_42_method_152_code
theorem d0 : decode yB 0 = .ok (.getstatic 38, 3) := by decide +kernel
theorem d3 : decode yB 3 = .ok (.ifCond (.eq) 10, 3) := by decide +kernel
theorem d6 : decode yB 6 = .ok (.aload_n 0, 1) := by decide +kernel
theorem d7 : decode yB 7 = .ok (.getfield 15, 3) := by decide +kernel
theorem d10 : decode yB 10 = .ok (.goto 4, 3) := by decide +kernel
theorem d14 : decode yB 14 = .ok (.ireturn, 1) := by decide +kernel
def site : List Cond := [.fieldLink "java/lang/String" 38 "java/lang/String" "COMPACT_STRINGS" "Z", .fieldLink "java/lang/String" 15 "java/lang/String" "coder" "B"]
def tab : Cond := tabOf yN yB 1 (some .byte) site
def P (x : Addr) (cd z : Int32) (args : Array Value) (s : State) : Prop := args = #[.ref x] ∧ Has x "java/lang/String" "coder" "B" (.int cd) s ∧ (cd = 0 ∨ cd = 1) ∧ StaticIs s "java/lang/String" "COMPACT_STRINGS" "Z" (.int z) ∧ ¬ z = 0
def E (cd : Int32) (r : Option Value) (s u : State) : Prop := XT.PureE (some (.int cd)) r s u
theorem law (l : Launch) (x : Addr) (cd z : Int32) : Law l yN 1 0 0 0 yB 1 (some .byte) site (P x cd z) (E cd) [] 0 0 := by
  refine Law.of_walk (plainFor_of_name (by decide +kernel)) (by decide +kernel) (by decide +kernel) (by decide) (fun _ _ h => by rw [h.1]; rfl) (fun _ U U' hal hh h => ⟨h.1, h.2.1.mv hal hh, h.2.2.1, h.2.2.2.1.there hal hh, h.2.2.2.2⟩) (fun r U U' V V' h1 hal h2 h => XT.PureE.mv r U U' V V' h1 hal h2 h) ?_
  intro p e s m args below meth c s₁ X0 hexec hbytes hml hret hlk hnm hown hh0 W hP
  obtain ⟨rfl, hx, hc, s1, hz⟩ := hP
  have c1 : Steps p.tables e below (s₁.setTop (entryFrame m #[.ref x] 1)) (s₁.setTop (mkF m 0 #[.val (.ref x)] [])) := entry rfl
  obtain ⟨T2, X2, q2, st2⟩ := X0.sget hexec hown (wk W (.fieldLink "java/lang/String" 38 "java/lang/String" "COMPACT_STRINGS" "Z")) s1 (fun _ _ h => by rw [hh0]; exact h) (g := (mkF m 0 #[.val (.ref x)] [])) rfl (hb hbytes d0)
  have hh2 := q2.trans hh0
  have c3 : Steps p.tables e below (s₁.setTop (entryFrame m #[.ref x] 1)) (T2.setTop (mkF m 7 #[.val (.ref x)] [.ref x])) := (c1.trans (st2 _ (Steps.refl _))).trans (by
    refine XS.ifNo X2.here hexec rfl (hb hbytes d3) rfl (i0_eq_f hz) ?_
    refine XS.aloadN X2.here hexec rfl (hb hbytes d6) rfl rfl ?_
    exact Steps.refl _)
  obtain ⟨T4, X4, q4, st4⟩ := X2.hget hexec hown (wk W (.fieldLink "java/lang/String" 15 "java/lang/String" "coder" "B")) (hx.mv X2.warmed.alike hh2) (g := (mkF m 7 #[.val (.ref x)] [.ref x])) rfl (rest := []) rfl (hb hbytes d7)
  have c5 : Steps p.tables e below (s₁.setTop (entryFrame m #[.ref x] 1)) (T4.setTop (mkF m 14 #[.val (.ref x)] [.int cd])) := (c3.trans (st4 _ (Steps.refl _))).trans (by
    refine XS.goto X4.here hexec rfl (pc0 := 10) rfl (hb hbytes d10) (by decide) rfl ?_
    exact Steps.refl _)
  exact ⟨T4, some (.int cd), _, _, _, X4, rfl, rfl, rfl, (fun h => by cases h), ⟨rfl, q4.trans hh2⟩, fun fs hl => c5.trans (X4.ireturnOut hexec hret (by rcases hc with rfl | rfl <;> rfl) (Or.inr (Or.inr (Or.inl rfl))) (hb hbytes d14) hl)⟩
end Cdr
namespace Len
def yN : MethodName := ⟨"java/lang/String", "length", "()I"⟩
abbrev yB : ByteArray := jdk_42_method_54_code
theorem d0 : decode yB 0 = .ok (.aload_n 0, 1) := by decide +kernel
theorem d1 : decode yB 1 = .ok (.getfield 9, 3) := by decide +kernel
theorem d4 : decode yB 4 = .ok (.arraylength, 1) := by decide +kernel
theorem d5 : decode yB 5 = .ok (.aload_n 0, 1) := by decide +kernel
theorem d6 : decode yB 6 = .ok (.invokevirtual 335, 3) := by decide +kernel
theorem d9 : decode yB 9 = .ok (.ishr, 1) := by decide +kernel
theorem d10 : decode yB 10 = .ok (.ireturn, 1) := by decide +kernel
def site : List Cond := [.fieldLink "java/lang/String" 9 "java/lang/String" "value" "[B", Cdr.tab] ++ virtW "java/lang/String" 335 "java/lang/String" Cdr.yN Cdr.yN
def tab : Cond := tabOf yN yB 1 (some .int) site
def P (x t : Addr) (V : Cell) (cd : Int32) (n : Nat) (f : Nat → Int32) (z : Int32) (args : Array Value) (s : State) : Prop := args = #[.ref x] ∧ Txt x t V cd n f s ∧ StaticIs s "java/lang/String" "COMPACT_STRINGS" "Z" (.int z) ∧ ¬ z = 0
def E (n : Nat) (r : Option Value) (s u : State) : Prop := XT.PureE (some (.int (Int32.ofNat n))) r s u
/-- length() of a String of n chars, in either coding -/
theorem law (l : Launch) (x t : Addr) (V : Cell) (cd : Int32) (n : Nat) (f : Nat → Int32) (z : Int32) : Law l yN 1 0 1 13 yB 1 (some .int) site (P x t V cd n f z) (E n) [] 0 0 := by
  refine Law.of_walk (plainFor_of_name (by decide +kernel)) (by decide +kernel) (by decide +kernel) (by decide) (fun _ _ h => by rw [h.1]; rfl) (fun _ U U' hal hh h => ⟨h.1, h.2.1.mv hal hh, h.2.2.1.there hal hh, h.2.2.2⟩) (fun r U U' V V' h1 hal h2 h => XT.PureE.mv r U U' V V' h1 hal h2 h) ?_
  intro p e s m args below meth c s₁ X0 hexec hbytes hml hret hlk hnm hown hh0 W hP
  obtain ⟨rfl, hx, s1, hz⟩ := hP
  have v31 := hx.2.2.2.1.2.2.2
  have c1 : Steps p.tables e below (s₁.setTop (entryFrame m #[.ref x] 1)) (s₁.setTop (mkF m 1 #[.val (.ref x)] [.ref x])) := Steps.trans (entry rfl) (by
    show Steps p.tables e below (s₁.setTop (mkF m 0 #[.val (.ref x)] [])) _
    refine XS.aloadN X0.here hexec rfl (hb hbytes d0) rfl rfl ?_
    exact Steps.refl _)
  obtain ⟨T2, X2, q2, st2⟩ := X0.hget hexec hown (wk W (.fieldLink "java/lang/String" 9 "java/lang/String" "value" "[B")) (hx.mv X0.warmed.alike hh0).2.1 (g := (mkF m 1 #[.val (.ref x)] [.ref x])) rfl (rest := []) rfl (hb hbytes d1)
  have hh2 := q2.trans hh0
  have hx2 := hx.mv X2.warmed.alike hh2
  have c3 : Steps p.tables e below (s₁.setTop (entryFrame m #[.ref x] 1)) (T2.setTop (mkF m 6 #[.val (.ref x)] [.ref x, .int (Int32.ofNat V.slots.size)])) := (c1.trans (st2 _ (Steps.refl _))).trans (by
    refine X2.alen hexec hx2.2.2.2.1 rfl rfl (hb hbytes d4) ?_
    refine XS.aloadN X2.here hexec rfl (hb hbytes d5) rfl rfl ?_
    exact Steps.refl _)
  obtain ⟨v4, T4, X4, E4, g4⟩ := X2.callV hexec (Cdr.law l x cd z) hown (wks W (virtW "java/lang/String" 335 "java/lang/String" Cdr.yN Cdr.yN)) rfl (by decide) (wk W Cdr.tab) (W := 1) (Nat.le_of_ble_eq_true rfl) (Nat.le_of_ble_eq_true rfl) (Nat.le_refl _) (Nat.le_refl _) (hx2.1.fc X2.warmed.alike) hx2.1.is (g := (mkF m 6 #[.val (.ref x)] [.ref x, .int (Int32.ofNat V.slots.size)])) rfl (by rw [hml]; rfl) c3 (argsL := []) (rest := [.int (Int32.ofNat V.slots.size)]) rfl rfl (by show 2 * 0 + (1 + 0) ≤ _; decide) (hb hbytes d6) (⟨rfl, hx2.2.2.1, hx.2.2.2.2.1.cd, s1.there X2.warmed.alike hh2, hz⟩)
  obtain ⟨rfl, q4⟩ := E4
  have c5 : Steps p.tables e below (s₁.setTop (entryFrame m #[.ref x] 1)) (T4.setTop (mkF m 10 #[.val (.ref x)] [.int (Int32.ofNat V.slots.size >>> (cd &&& 31))])) := Steps.trans g4 (by
    refine ishr X4.here hexec rfl (hb hbytes d9) rfl ?_
    exact Steps.refl _)
  rw [hx.2.2.2.2.1.len v31] at c5
  exact ⟨T4, some (.int (Int32.ofNat n)), _, _, _, X4, rfl, rfl, rfl, (fun h => by cases h), ⟨rfl, q4.trans hh2⟩, fun fs hl => c5.trans (X4.ireturnOut hexec hret rfl (Or.inl rfl) (hb hbytes d10) hl)⟩
theorem pays {l : Launch} {R : Room} {p : Program} {e : Env} {below : List Frame} {s : State} {sargs : Array Value} {len W : Nat} (x t : Addr) (V : Cell) (cd : Int32) (n : Nat) (f : Nat → Int32) (z : Int32) (htab : tab.before sargs s = true) (hfr : 2 ≤ R.frames) (hlo : W + 25 ≤ R.locals) :
    Back l R p e below s sargs yN len W (fun A₁ a₁ => A₁.cells + 0 ≤ R.cells ∧ A₁.slots + 0 ≤ R.slots ∧ P x t V cd n f z a₁ A₁.U) (fun A₁ _ v₁ B₁ => E n v₁ A₁.U B₁.U ∧ B₁.locs = A₁.locs ++ [] ∧ B₁.cells = A₁.cells + 0 ∧ B₁.slots = A₁.slots + 0) :=
  (law l x t V cd n f z).pays htab hfr (by omega)
end Len
namespace IsL
def yN : MethodName := ⟨"java/lang/String", "isLatin1", "()Z"⟩
abbrev yB : ByteArray := jdk_42_method_154_code
theorem d0 : decode yB 0 = .ok (.getstatic 38, 3) := by decide +kernel
theorem d3 : decode yB 3 = .ok (.ifCond (.eq) 14, 3) := by decide +kernel
theorem d6 : decode yB 6 = .ok (.aload_n 0, 1) := by decide +kernel
theorem d7 : decode yB 7 = .ok (.getfield 15, 3) := by decide +kernel
theorem d10 : decode yB 10 = .ok (.ifCond (.ne) 7, 3) := by decide +kernel
theorem d13 : decode yB 13 = .ok (.iconst 1, 1) := by decide +kernel
theorem d14 : decode yB 14 = .ok (.goto 4, 3) := by decide +kernel
theorem d17 : decode yB 17 = .ok (.iconst 0, 1) := by decide +kernel
theorem d18 : decode yB 18 = .ok (.ireturn, 1) := by decide +kernel
def site : List Cond := [.fieldLink "java/lang/String" 38 "java/lang/String" "COMPACT_STRINGS" "Z", .fieldLink "java/lang/String" 15 "java/lang/String" "coder" "B"]
def tab : Cond := tabOf yN yB 1 (some .boolean) site
def P (x : Addr) (cd z : Int32) (args : Array Value) (s : State) : Prop := args = #[.ref x] ∧ Has x "java/lang/String" "coder" "B" (.int cd) s ∧ (cd = 0 ∨ cd = 1) ∧ StaticIs s "java/lang/String" "COMPACT_STRINGS" "Z" (.int z) ∧ ¬ z = 0
def E (cd : Int32) (r : Option Value) (s u : State) : Prop := XT.PureE (some (.int (1 - cd))) r s u
theorem law (l : Launch) (x : Addr) (cd z : Int32) : Law l yN 1 0 0 0 yB 1 (some .boolean) site (P x cd z) (E cd) [] 0 0 := by
  refine Law.of_walk (plainFor_of_name (by decide +kernel)) (by decide +kernel) (by decide +kernel) (by decide) (fun _ _ h => by rw [h.1]; rfl) (fun _ U U' hal hh h => ⟨h.1, h.2.1.mv hal hh, h.2.2.1, h.2.2.2.1.there hal hh, h.2.2.2.2⟩) (fun r U U' V V' h1 hal h2 h => XT.PureE.mv r U U' V V' h1 hal h2 h) ?_
  intro p e s m args below meth c s₁ X0 hexec hbytes hml hret hlk hnm hown hh0 W hP
  obtain ⟨rfl, hx, hc, s1, hz⟩ := hP
  have c1 : Steps p.tables e below (s₁.setTop (entryFrame m #[.ref x] 1)) (s₁.setTop (mkF m 0 #[.val (.ref x)] [])) := entry rfl
  obtain ⟨T2, X2, q2, st2⟩ := X0.sget hexec hown (wk W (.fieldLink "java/lang/String" 38 "java/lang/String" "COMPACT_STRINGS" "Z")) s1 (fun _ _ h => by rw [hh0]; exact h) (g := (mkF m 0 #[.val (.ref x)] [])) rfl (hb hbytes d0)
  have hh2 := q2.trans hh0
  have c3 : Steps p.tables e below (s₁.setTop (entryFrame m #[.ref x] 1)) (T2.setTop (mkF m 7 #[.val (.ref x)] [.ref x])) := (c1.trans (st2 _ (Steps.refl _))).trans (by
    refine XS.ifNo X2.here hexec rfl (hb hbytes d3) rfl (i0_eq_f hz) ?_
    refine XS.aloadN X2.here hexec rfl (hb hbytes d6) rfl rfl ?_
    exact Steps.refl _)
  obtain ⟨T4, X4, q4, st4⟩ := X2.hget hexec hown (wk W (.fieldLink "java/lang/String" 15 "java/lang/String" "coder" "B")) (hx.mv X2.warmed.alike hh2) (g := (mkF m 7 #[.val (.ref x)] [.ref x])) rfl (rest := []) rfl (hb hbytes d7)
  have c5 : Steps p.tables e below (s₁.setTop (entryFrame m #[.ref x] 1)) (T4.setTop (mkF m 10 #[.val (.ref x)] [.int cd])) := c3.trans (st4 _ (Steps.refl _))
  have c6 : Steps p.tables e below (s₁.setTop (entryFrame m #[.ref x] 1)) (T4.setTop (mkF m 18 #[.val (.ref x)] [.int (1 - cd)])) := by
    rcases hc with rfl | rfl
    · exact c5.trans (by
        refine XS.ifNo X4.here hexec rfl (hb hbytes d10) rfl (i0_ne_f rfl) ?_
        refine iconstV X4.here hexec rfl 1 (hb hbytes d13) (by decide) ?_
        refine XS.goto X4.here hexec rfl (pc0 := 14) rfl (hb hbytes d14) (by decide) rfl ?_
        exact Steps.refl _)
    · exact c5.trans (by
        refine XS.ifYes X4.here hexec rfl (pc0 := 10) rfl (hb hbytes d10) rfl (i0_ne_t (by decide)) (by decide) rfl ?_
        refine iconstV X4.here hexec rfl 0 (hb hbytes d17) (by decide) ?_
        exact Steps.refl _)
  exact ⟨T4, some (.int (1 - cd)), _, _, _, X4, rfl, rfl, rfl, (fun h => by cases h), ⟨rfl, q4.trans hh2⟩, fun fs hl => c6.trans (X4.ireturnOut hexec hret (by rcases hc with rfl | rfl <;> rfl) (Or.inr (Or.inl rfl)) (hb hbytes d18) hl)⟩
end IsL
namespace LChA
def yN : MethodName := ⟨"java/lang/StringLatin1", "charAt", "([BI)C"⟩
abbrev yB : ByteArray := jdk_43_method_2_code
theorem d0 : decode yB 0 = .ok (.iload_n 1, 1) := by decide +kernel
theorem d1 : decode yB 1 = .ok (.aload_n 0, 1) := by decide +kernel
theorem d2 : decode yB 2 = .ok (.arraylength, 1) := by decide +kernel
theorem d3 : decode yB 3 = .ok (.invokestatic 9, 3) := by decide +kernel
theorem d6 : decode yB 6 = .ok (.aload_n 0, 1) := by decide +kernel
theorem d7 : decode yB 7 = .ok (.iload_n 1, 1) := by decide +kernel
theorem d8 : decode yB 8 = .ok (.baload, 1) := by decide +kernel
theorem d9 : decode yB 9 = .ok (.sipush 255, 3) := by decide +kernel
theorem d12 : decode yB 12 = .ok (.iand, 1) := by decide +kernel
theorem d13 : decode yB 13 = .ok (.i2c, 1) := by decide +kernel
theorem d14 : decode yB 14 = .ok (.ireturn, 1) := by decide +kernel
def site : List Cond := [JO.Str_checkIndex.tab] ++ staticW "java/lang/StringLatin1" 9 JO.Str_checkIndex.yN
def tab : Cond := tabOf yN yB 2 (some .char) site
def P (t : Addr) (V : Cell) (i : Nat) (u : Int32) (fm : Value) (args : Array Value) (s : State) : Prop := args = #[.ref t, .int (Int32.ofNat i)] ∧ XT.Arr .byte t V s ∧ V.slots[i]? = some (.int u) ∧ (StaticIs s "jdk/internal/util/Preconditions" "SIOOBE_FORMATTER" "Ljava/util/function/BiFunction;" fm ∧ fm.isRef = true)
def E (u : Int32) (r : Option Value) (s w : State) : Prop := XT.PureE (some (.int (chr8 u))) r s w
theorem law (l : Launch) (t : Addr) (V : Cell) (i : Nat) (u : Int32) (fm : Value) : Law l yN 2 2 2 27 yB 2 (some .char) site (P t V i u fm) (E u) [] 0 0 := by
  refine Law.of_walk (plainFor_of_name (by decide +kernel)) (by decide +kernel) (by decide +kernel) (by decide) (fun _ _ h => by rw [h.1]; rfl) (fun _ U U' hal hh h => ⟨h.1, h.2.1.mv hal hh, h.2.2.1, h.2.2.2.1.there hal hh, h.2.2.2.2⟩) (fun r U U' V V' h1 hal h2 h => XT.PureE.mv r U U' V V' h1 hal h2 h) ?_
  intro p e s m args below meth c s₁ X0 hexec hbytes hml hret hlk hnm hown hh0 W hP
  obtain ⟨rfl, hV, hu, s1, rf⟩ := hP
  have v31 := hV.2.2.2
  have hi : i < V.slots.size := (Array.getElem?_eq_some_iff.mp hu).1
  have c1 : Steps p.tables e below (s₁.setTop (entryFrame m #[.ref t, .int (Int32.ofNat i)] 2)) (s₁.setTop (mkF m 0 #[.val (.ref t), .val (.int (Int32.ofNat i))] [])) := entry rfl
  have c2 : Steps p.tables e below (s₁.setTop (entryFrame m #[.ref t, .int (Int32.ofNat i)] 2)) (s₁.setTop (mkF m 3 #[.val (.ref t), .val (.int (Int32.ofNat i))] [.int (Int32.ofNat V.slots.size), .int (Int32.ofNat i)])) := c1.trans (by
    refine XS.iloadN X0.here hexec rfl (hb hbytes d0) rfl ?_
    refine XS.aloadN X0.here hexec rfl (hb hbytes d1) rfl rfl ?_
    refine X0.alen hexec (hV.mv X0.warmed.alike hh0) rfl rfl (hb hbytes d2) ?_
    exact Steps.refl _)
  obtain ⟨v3, T3, X3, E3, g3⟩ := X0.callS hexec (JO.Str_checkIndex.law l (Int32.ofNat i) (Int32.ofNat V.slots.size) fm) hown (wks W (staticW "java/lang/StringLatin1" 9 JO.Str_checkIndex.yN)) (wk W JO.Str_checkIndex.tab) (W := 0) (Nat.le_of_ble_eq_true rfl) (Nat.le_of_ble_eq_true rfl) (Nat.le_refl _) (Nat.le_refl _) (g := (mkF m 3 #[.val (.ref t), .val (.int (Int32.ofNat i))] [.int (Int32.ofNat V.slots.size), .int (Int32.ofNat i)])) rfl (by rw [hml]; rfl) c2 (argsL := [.int (Int32.ofNat i), .int (Int32.ofNat V.slots.size)]) (rest := []) rfl rfl (by show 2 * 0 + 0 ≤ _; decide) (hb hbytes d3) (⟨rfl, rf, s1.there X0.warmed.alike hh0, Int32.ofNat_not_neg (by omega), lt32 v31 hi⟩)
  obtain ⟨rfl, q3⟩ := E3
  have hh3 := q3.trans hh0
  have c4 : Steps p.tables e below (s₁.setTop (entryFrame m #[.ref t, .int (Int32.ofNat i)] 2)) (T3.setTop (mkF m 14 #[.val (.ref t), .val (.int (Int32.ofNat i))] [.int (chr8 u)])) := Steps.trans g3 (by
    refine XS.aloadN X3.here hexec rfl (hb hbytes d6) rfl rfl ?_
    refine XS.iloadN X3.here hexec rfl (hb hbytes d7) rfl ?_
    refine X3.aget hexec (hV.mv X3.warmed.alike hh3) rfl hu rfl rfl (hb hbytes d8) ?_
    refine sipushV X3.here hexec rfl 255 (hb hbytes d9) (by decide) ?_
    refine XS.iand X3.here hexec rfl (hb hbytes d12) rfl ?_
    refine i2c X3.here hexec rfl (hb hbytes d13) rfl ?_
    exact Steps.refl _)
  exact ⟨T3, some (.int (chr8 u)), _, _, _, X3, rfl, rfl, rfl, (fun h => by cases h), ⟨rfl, hh3⟩, fun fs hl => c4.trans (X3.ireturnOut hexec hret (narrow_c _) (Or.inr (Or.inr (Or.inr (Or.inl rfl)))) (hb hbytes d14) hl)⟩
end LChA
end StrChars
namespace StrChars.Road
open Jvm Sem ClassFile Op Lib Jvm.Stand Jvm.Free Jvm.Free.XT
open Jvm.Lib.Cold (StaticIs)
theorem consq {a : Array Value} {s : State} {c : Jvm.Cond} {L : List Jvm.Cond} (h0 : c.before a s = true) (h : ∀ w ∈ L, w.before a s = true) : ∀ w ∈ c :: L, w.before a s = true := fun w hw => (List.mem_cons.mp hw).elim (fun e => e ▸ h0) (h w)
/-- the words of String.length(), either coding -/
abbrev wordsLen : List Jvm.Cond := [.code Len.yN Len.yB 1 (some .int), .initialized ST, .fieldLink ST 9 ST "value" "[B", .fieldLink ST 38 ST "COMPACT_STRINGS" "Z", .fieldLink ST 15 ST "coder" "B", .code Cdr.yN Cdr.yB 1 (some .byte), .methodLink ST 335 Cdr.yN, .declares Cdr.yN, .selects ST Cdr.yN Cdr.yN, .instanceMethod Cdr.yN]
theorem tabLen_of {a : Array Value} {s : State} (h : ∀ w ∈ wordsLen, w.before a s = true) : Len.tab.before a s = true := by
  have hc : Cdr.tab.before a s = true := unparts (wk h (.code Cdr.yN Cdr.yB 1 (some .byte))) (wks h (.initialized Cdr.yN.cls :: Cdr.site))
  have q := consq hc h
  exact unparts (wk q (.code Len.yN Len.yB 1 (some .int))) (wks q (.initialized Len.yN.cls :: Len.site))
theorem movedLen {Z s : State} {a0 args : Array Value} (hZ : Z.Warmed39 s.vm) (hw : ∀ d ∈ wordsLen, d.before a0 Z = true) : ∀ d ∈ wordsLen, d.before args s = true := fun d hd => by
  have q := hw d hd
  have t : ∀ d ∈ wordsLen, d = .arrayClass .byte ∨ (d.onTables && d.keepsFace) = true := by decide +kernel
  rcases t d hd with rfl | t
  · exact RoadKit.mvA hZ q
  · exact RoadKit.mv hZ q t
/-- the bytes of the chars cs, low before high -/
def wideBytes : List Int32 → List Value
  | [] => []
  | c :: cs => .int (lo8 c) :: .int (hi8 c) :: wideBytes cs
theorem wide_lo (d : Value) : ∀ (cs : List Int32) (j : Nat), j < cs.length → (wideBytes cs).getD (2 * j) d = .int (lo8 (cs.getD j 0))
  | [], j, h => absurd h (Nat.not_lt_zero j)
  | c :: cs, 0, _ => rfl
  | c :: cs, j + 1, h => by
    have q := wide_lo d cs j (by simpa using h)
    rw [show 2 * (j + 1) = 2 * j + 1 + 1 from by omega]
    simpa [wideBytes] using q
theorem wide_hi (d : Value) : ∀ (cs : List Int32) (j : Nat), j < cs.length → (wideBytes cs).getD (2 * j + 1) d = .int (hi8 (cs.getD j 0))
  | [], j, h => absurd h (Nat.not_lt_zero j)
  | c :: cs, 0, _ => rfl
  | c :: cs, j + 1, h => by
    have q := wide_hi d cs j (by simpa using h)
    rw [show 2 * (j + 1) + 1 = 2 * j + 1 + 1 + 1 from by omega]
    simpa [wideBytes] using q
theorem low_at (d : Value) (cs : List Int32) (j : Nat) (h : j < cs.length) : (cs.map fun c => Value.int (lo8 c)).getD j d = .int (lo8 (cs.getD j 0)) := by
  simp [List.getD_eq_getElem?_getD, h]
/-- an array of N2 bytes vs codes the chars cs by the coder cd -/
def CodA (cs : List Int32) (cd N2 : Int32) (vs : List Value) : Prop := (cd = 0 ∧ N2 = Int32.ofNat cs.length ∧ vs = (cs.map fun c => Value.int (lo8 c)) ∧ ∀ c ∈ cs, ¬ 255 < c) ∨ (cd = 1 ∧ N2 = Int32.ofNat (2 * cs.length) ∧ vs = wideBytes cs ∧ ∃ c ∈ cs, 255 < c)
theorem CodA.cod {cs : List Int32} {cd N2 : Int32} {vs : List Value} {V : Cell} (h : CodA cs cd N2 vs) (hn : 2 * cs.length < 2 ^ 31) (hs : V.slots.size = N2.toNatClampNeg) (hv : RoadKit.Has V vs (.int 0)) : Cod cd cs.length (fun j => cs.getD j 0) V := by
  rcases h with ⟨rfl, rfl, rfl, h⟩ | ⟨rfl, rfl, rfl, c, hc, hw⟩
  · rw [n32 (by omega)] at hs
    exact Or.inl ⟨rfl, hs, fun j hj => ⟨by rw [hv j (by omega), low_at _ _ _ hj], by
      have e : cs.getD j 0 = cs[j] := by simp [List.getD_eq_getElem?_getD, hj]
      show ¬ 255 < cs.getD j 0
      rw [e]; exact h _ (List.getElem_mem _)⟩⟩
  · rw [n32 (by omega)] at hs
    obtain ⟨j, hj, rfl⟩ := List.getElem_of_mem hc
    exact Or.inr ⟨rfl, hs, fun j hj => ⟨by rw [hv _ (by omega), wide_lo _ _ _ hj], by rw [hv _ (by omega), wide_hi _ _ _ hj]⟩, j, hj, by
      have e : cs.getD j 0 = cs[j] := by simp [List.getD_eq_getElem?_getD, hj]
      show 255 < cs.getD j 0
      rw [e]; exact hw⟩
/-- an object of exactly java/lang/String, its two fields found: as the laws ask it -/
theorem strObj {Z U : State} {a0 : Array Value} {kI : Nat} (wi : (Jvm.Cond.instantiable ST kI).before a0 Z = true) (al : Z.vm.Alike U.vm) {x : Addr} {v0 c0 : Value} (E : RoadKit.Exa Z U.heap x ST) (V : RoadKit.Fld Z U.heap x ST "value" "[B" v0) (C : RoadKit.Fld Z U.heap x ST "coder" "B" c0) :
    ∃ (D : Cell) (fV fC : Field), Blank ST x D U ∧ Found ST "value" "[B" fV U ∧ Found ST "coder" "B" fC U ∧ D.slots[fV.slot]? = some v0 ∧ D.slots[fC.slot]? = some c0 ∧ RoadKit.slotOf Z ST "value" "[B" = fV.slot ∧ RoadKit.slotOf Z ST "coder" "B" = fC.slot := by
  obtain ⟨D, cfV, kV, iV, fV, hD, gV, stV, knV, obV, asV, slV⟩ := V
  obtain ⟨D', cfC, kC, iC, fC, hD', gC, stC, -, -, asC, slC⟩ := C
  cases hD.symm.trans hD'
  obtain ⟨D2, kD, e1, e2, e3, e4, e5⟩ := E
  cases hD.symm.trans e1
  obtain ⟨c2, k2, i1, i2, i3, -⟩ := Cond.instantiable_spec wi
  cases e2.symm.trans i1
  cases e3.symm.trans i2
  obtain ⟨kU, u1, u2⟩ := al.2.2 _ _ e3
  exact ⟨D, fV, fC, ⟨hD, ⟨knV, fun q hq => by rw [hq] at obV; cases obV⟩, by rw [al.findClass]; exact e2, kU, u1, by rw [u2]; exact i3, by rw [u2]; exact e5 i3⟩, ⟨SBG.found_only al ⟨cfV, kV, iV, gV⟩, stV⟩, ⟨SBG.found_only al ⟨cfC, kC, iC, gC⟩, stC⟩, slV, slC, by simp [RoadKit.slotOf, gV], by simp [RoadKit.slotOf, gC]⟩
theorem sta_is {Z U : State} (al : Z.vm.Alike U.vm) {C n d : String} {v : Value} (S : RoadKit.Sta Z U.heap C n d v) : StaticIs U C n d v := by
  obtain ⟨cfS, iS, kS, fS, st, cS, t1, t2, t3, t4, t5, t6, t7⟩ := S
  exact StaticIs.there (s := { Z with heap := U.heap }) ⟨cfS, iS, kS, fS, st, cS, t1, t2, t3, t4, t5, (fun q => by rw [q] at t6; cases t6), t7⟩ al rfl
/-- **length() OF SUCH A STRING** -/
theorem lenW {p : Program} {l : Launch} {e : Env} {R : Room} {s : State} {args : Array Value} {below : List Frame} {len W : Nat} {Z : State} {a0 : Array Value} {h : Heap} (hZ : Z.Warmed39 s.vm) (hw : ∀ d ∈ wordsLen, d.before a0 Z = true) {kI : Nat} (wi : (Jvm.Cond.instantiable ST kI).before a0 Z = true)
    {x t : Addr} {kb : ClassId} {cs : List Int32} {cd N2 z : Int32} {vs : List Value} (E : RoadKit.Exa Z h x ST) (V : RoadKit.Fld Z h x ST "value" "[B" (.ref t)) (C : RoadKit.Fld Z h x ST "coder" "B" (.int cd)) (K : RoadKit.Arv Z h t kb .byte N2 vs (.int 0)) (hc : CodA cs cd N2 vs) (hb : ∀ c ∈ cs, ¬ c < 0 ∧ ¬ (65535 : Int32) < c)
    (S : RoadKit.Sta Z h ST "COMPACT_STRINGS" "Z" (.int z)) (hz : ¬ z = 0) (l2 : cs.length ≤ 4000) (hfr : 2 ≤ R.frames) (hlo : W + 25 ≤ R.locals) :
    Back l R p e below s args (⟨"java/lang/String", "length", "()I"⟩ : MethodName) len W (fun P a => a = #[.ref x] ∧ P.U.heap = h ∧ P.cells + 0 ≤ R.cells ∧ P.slots + 0 ≤ R.slots)
      (fun P _ v B => ∃ L, (v = some (.int (Int32.ofNat cs.length)) ∧ L = [] ∧ B.U.heap = h) ∧ B.locs = P.locs ++ L ∧ B.cells = P.cells + 0 ∧ B.slots = P.slots + 0) := by
  obtain ⟨A, K1, K2, K3, K4, K5, K6⟩ := K
  have hcod := hc.cod (by omega) K3 K5
  intro m meth c P g ig mk a X hg hsize hdg hW hn hp'
  obtain ⟨rfl, rfl, r1, r2⟩ := hp'
  have al : Z.vm.Alike P.U.vm := hZ.alike.trans X.warmed.alike
  obtain ⟨D, fV, fC, hB, F1, F2, g1, g2, -, -⟩ := strObj wi al E V C
  have hx : Txt x t A cd cs.length (fun j => cs.getD j 0) P.U := ⟨⟨_, hB.2.2.1, D, hB.1, rfl, by cases q : D.vm <;> first | rfl | exact absurd q (hB.2.1.2 _)⟩, Has.of hB F1 g1, Has.of hB F2 g2, ⟨K1.1, State.isArrayOf_alike al K1.2.1, K1.2.2, by rcases hcod with ⟨-, q, -⟩ | ⟨-, q, -⟩ <;> omega⟩, hcod, fun j hj => by
    have e : cs.getD j 0 = cs[j] := by simp [List.getD_eq_getElem?_getD, hj]
    show ¬ cs.getD j 0 < 0 ∧ ¬ 65535 < cs.getD j 0
    rw [e]; exact hb _ (List.getElem_mem _)⟩
  obtain ⟨v, B, X', ⟨⟨hv, hh⟩, hl, hk, hs⟩, st⟩ := Len.pays x t A cd cs.length (fun j => cs.getD j 0) z (tabLen_of (movedLen hZ hw)) hfr hlo m meth c P g ig mk _ X hg hsize hdg hW hn ⟨r1, r2, rfl, hx, sta_is al S, hz⟩
  exact ⟨v, B, X', ⟨[], ⟨hv, rfl, hh⟩, hl, hk, hs⟩, st⟩
end StrChars.Road
namespace StrChars.Road
open Jvm Sem ClassFile Op Lib Jvm.Stand Jvm.Free Jvm.Free.XT
open Jvm.Lib.Cold (StaticIs)
/-- the road's facts of a String, as the laws ask it -/
theorem txt_of {Z U : State} {a0 : Array Value} {kI : Nat} (wi : (Jvm.Cond.instantiable ST kI).before a0 Z = true) (al : Z.vm.Alike U.vm) {x t : Addr} {kb : ClassId} {cs : List Int32} {cd N2 : Int32} {vs : List Value} (E : RoadKit.Exa Z U.heap x ST) (V : RoadKit.Fld Z U.heap x ST "value" "[B" (.ref t)) (C : RoadKit.Fld Z U.heap x ST "coder" "B" (.int cd)) (K : RoadKit.Arv Z U.heap t kb .byte N2 vs (.int 0)) (hc : CodA cs cd N2 vs) (hb : ∀ c ∈ cs, ¬ c < 0 ∧ ¬ (65535 : Int32) < c) (l2 : cs.length ≤ 4000) :
    ∃ A, Txt x t A cd cs.length (fun j => cs.getD j 0) U := by
  obtain ⟨A, K1, K2, K3, K4, K5, K6⟩ := K
  have hcod := hc.cod (by omega) K3 K5
  obtain ⟨D, fV, fC, hB, F1, F2, g1, g2, -, -⟩ := strObj wi al E V C
  exact ⟨A, ⟨_, hB.2.2.1, D, hB.1, rfl, by cases q : D.vm <;> first | rfl | exact absurd q (hB.2.1.2 _)⟩, Has.of hB F1 g1, Has.of hB F2 g2, ⟨K1.1, State.isArrayOf_alike al K1.2.1, K1.2.2, by rcases hcod with ⟨-, q, -⟩ | ⟨-, q, -⟩ <;> omega⟩, hcod, fun j hj => by
    have e : cs.getD j 0 = cs[j] := by simp [List.getD_eq_getElem?_getD, hj]
    show ¬ cs.getD j 0 < 0 ∧ ¬ 65535 < cs.getD j 0
    rw [e]; exact hb _ (List.getElem_mem _)⟩
end StrChars.Road
namespace StrChars
open Jvm Sem ClassFile Op Lib Jvm.Stand Jvm.Free.XT Jvm.Free.ALB Jvm.Free.JM Jvm.Free
open Jvm.Lib.Cold (StaticIs)
namespace ChN
def yN : MethodName := ⟨"java/lang/String", "charAt", "(I)C"⟩
abbrev yB : ByteArray := jdk_42_method_56_code
theorem d0 : decode yB 0 = .ok (.aload_n 0, 1) := by decide +kernel
theorem d1 : decode yB 1 = .ok (.invokevirtual 492, 3) := by decide +kernel
theorem d4 : decode yB 4 = .ok (.ifCond (.eq) 12, 3) := by decide +kernel
theorem d7 : decode yB 7 = .ok (.aload_n 0, 1) := by decide +kernel
theorem d8 : decode yB 8 = .ok (.getfield 9, 3) := by decide +kernel
theorem d11 : decode yB 11 = .ok (.iload_n 1, 1) := by decide +kernel
theorem d12 : decode yB 12 = .ok (.invokestatic 495, 3) := by decide +kernel
theorem d15 : decode yB 15 = .ok (.ireturn, 1) := by decide +kernel
def site : List Cond := [.fieldLink "java/lang/String" 9 "java/lang/String" "value" "[B", IsL.tab, LChA.tab] ++ virtW "java/lang/String" 492 "java/lang/String" IsL.yN IsL.yN ++ staticW "java/lang/String" 495 LChA.yN
def tab : Cond := tabOf yN yB 2 (some .char) site
def P (x t : Addr) (V : Cell) (n : Nat) (f : Nat → Int32) (z : Int32) (fm : Value) (i : Nat) (args : Array Value) (s : State) : Prop := args = #[.ref x, .int (Int32.ofNat i)] ∧ Txt x t V 0 n f s ∧ i < n ∧ StaticIs s "java/lang/String" "COMPACT_STRINGS" "Z" (.int z) ∧ ¬ z = 0 ∧ StaticIs s "jdk/internal/util/Preconditions" "SIOOBE_FORMATTER" "Ljava/util/function/BiFunction;" fm ∧ fm.isRef = true
def E (f : Nat → Int32) (i : Nat) (r : Option Value) (s u : State) : Prop := XT.PureE (some (.int (f i))) r s u
/-- charAt(i) of a Latin-1 String of n chars, i < n: f i -/
theorem law (l : Launch) (x t : Addr) (V : Cell) (n : Nat) (f : Nat → Int32) (z : Int32) (fm : Value) (i : Nat) : Law l yN 2 1 3 40 yB 2 (some .char) site (P x t V n f z fm i) (E f i) [] 0 0 := by
  refine Law.of_walk (plainFor_of_name (by decide +kernel)) (by decide +kernel) (by decide +kernel) (by decide) (fun _ _ h => by rw [h.1]; rfl) (fun _ U U' hal hh h => ⟨h.1, h.2.1.mv hal hh, h.2.2.1, h.2.2.2.1.there hal hh, h.2.2.2.2.1, h.2.2.2.2.2.1.there hal hh, h.2.2.2.2.2.2⟩) (fun r U U' V V' h1 hal h2 h => XT.PureE.mv r U U' V V' h1 hal h2 h) ?_
  intro p e s m args below meth c s₁ X0 hexec hbytes hml hret hlk hnm hown hh0 W hP
  obtain ⟨rfl, hx, hi, s1, hz, s3, rf⟩ := hP
  have v31 := hx.2.2.2.1.2.2.2
  have hr := hx.2.2.2.2.2 i hi
  have hx0 := hx.mv X0.warmed.alike hh0
  have c1 : Steps p.tables e below (s₁.setTop (entryFrame m #[.ref x, .int (Int32.ofNat i)] 2)) (s₁.setTop (mkF m 1 #[.val (.ref x), .val (.int (Int32.ofNat i))] [.ref x])) := Steps.trans (entry rfl) (by
    show Steps p.tables e below (s₁.setTop (mkF m 0 #[.val (.ref x), .val (.int (Int32.ofNat i))] [])) _
    refine XS.aloadN X0.here hexec rfl (hb hbytes d0) rfl rfl ?_
    exact Steps.refl _)
  obtain ⟨v2, T2, X2, E2, g2⟩ := X0.callV hexec (IsL.law l x 0 z) hown (wks W (virtW "java/lang/String" 492 "java/lang/String" IsL.yN IsL.yN)) rfl (by decide) (wk W IsL.tab) (W := 0) (Nat.le_of_ble_eq_true rfl) (Nat.le_of_ble_eq_true rfl) (Nat.le_refl _) (Nat.le_refl _) (hx0.1.fc X0.warmed.alike) hx0.1.is (g := (mkF m 1 #[.val (.ref x), .val (.int (Int32.ofNat i))] [.ref x])) rfl (by rw [hml]; rfl) c1 (argsL := []) (rest := []) rfl rfl (by show 2 * 0 + 0 ≤ _; decide) (hb hbytes d1) (⟨rfl, hx0.2.2.1, hx.2.2.2.2.1.cd, s1.there X0.warmed.alike hh0, hz⟩)
  obtain ⟨rfl, q2⟩ := E2
  have hh2 := q2.trans hh0
  have hx2 := hx.mv X2.warmed.alike hh2
  obtain ⟨-, k1, k2⟩ | ⟨k0, -⟩ := hx.2.2.2.2.1
  · have c3 : Steps p.tables e below (s₁.setTop (entryFrame m #[.ref x, .int (Int32.ofNat i)] 2)) (T2.setTop (mkF m 8 #[.val (.ref x), .val (.int (Int32.ofNat i))] [.ref x])) := Steps.trans g2 (by
      refine XS.ifNo X2.here hexec rfl (hb hbytes d4) rfl (i0_eq_f (by decide)) ?_
      refine XS.aloadN X2.here hexec rfl (hb hbytes d7) rfl rfl ?_
      exact Steps.refl _)
    obtain ⟨T4, X4, q4, st4⟩ := X2.hget hexec hown (wk W (.fieldLink "java/lang/String" 9 "java/lang/String" "value" "[B")) hx2.2.1 (g := (mkF m 8 #[.val (.ref x), .val (.int (Int32.ofNat i))] [.ref x])) rfl (rest := []) rfl (hb hbytes d8)
    have hh4 := q4.trans hh2
    have c5 : Steps p.tables e below (s₁.setTop (entryFrame m #[.ref x, .int (Int32.ofNat i)] 2)) (T4.setTop (mkF m 12 #[.val (.ref x), .val (.int (Int32.ofNat i))] [.int (Int32.ofNat i), .ref t])) := (c3.trans (st4 _ (Steps.refl _))).trans (by
      refine XS.iloadN X4.here hexec rfl (hb hbytes d11) rfl ?_
      exact Steps.refl _)
    obtain ⟨v6, T6, X6, E6, g6⟩ := X4.callS hexec (LChA.law l t V i (lo8 (f i)) fm) hown (wks W (staticW "java/lang/String" 495 LChA.yN)) (wk W LChA.tab) (W := 0) (Nat.le_of_ble_eq_true rfl) (Nat.le_of_ble_eq_true rfl) (Nat.le_refl _) (Nat.le_refl _) (g := (mkF m 12 #[.val (.ref x), .val (.int (Int32.ofNat i))] [.int (Int32.ofNat i), .ref t])) rfl (by rw [hml]; rfl) c5 (argsL := [.ref t, .int (Int32.ofNat i)]) (rest := []) rfl rfl (by show 2 * 0 + 0 ≤ _; decide) (hb hbytes d12) (⟨rfl, hx.2.2.2.1.mv X4.warmed.alike hh4, (k2 i hi).1, s3.there X4.warmed.alike hh4, rf⟩)
    obtain ⟨rfl, q6⟩ := E6
    rw [chr8_lo8 hr.1 (k2 i hi).2] at g6
    exact ⟨T6, some (.int (f i)), _, _, _, X6, rfl, rfl, rfl, (fun h => by cases h), ⟨rfl, q6.trans hh4⟩, fun fs hl => Steps.trans g6 (X6.ireturnOut hexec hret (narrow_ch hr.1 hr.2) (Or.inr (Or.inr (Or.inr (Or.inl rfl)))) (hb hbytes d15) hl)⟩
  · exact absurd k0 (by decide)
theorem pays {l : Launch} {R : Room} {p : Program} {e : Env} {below : List Frame} {s : State} {sargs : Array Value} {len W : Nat} (x t : Addr) (V : Cell) (n : Nat) (f : Nat → Int32) (z : Int32) (fm : Value) (i : Nat) (htab : tab.before sargs s = true) (hfr : 4 ≤ R.frames) (hlo : W + 53 ≤ R.locals) :
    Back l R p e below s sargs yN len W (fun A₁ a₁ => A₁.cells + 0 ≤ R.cells ∧ A₁.slots + 0 ≤ R.slots ∧ P x t V n f z fm i a₁ A₁.U) (fun A₁ _ v₁ B₁ => E f i v₁ A₁.U B₁.U ∧ B₁.locs = A₁.locs ++ [] ∧ B₁.cells = A₁.cells + 0 ∧ B₁.slots = A₁.slots + 0) :=
  (law l x t V n f z fm i).pays htab hfr (by omega)
end ChN
end StrChars
namespace StrChars.Road
open Jvm Sem ClassFile Op Lib Jvm.Stand Jvm.Free Jvm.Free.XT
open Jvm.Lib.Cold (StaticIs)
/-- the words of String.charAt(int), the Latin-1 road alone -/
abbrev wordsChN : List Jvm.Cond := [.code ChN.yN ChN.yB 2 (some .char), .initialized ST, .fieldLink ST 9 ST "value" "[B", .fieldLink ST 38 ST "COMPACT_STRINGS" "Z", .fieldLink ST 15 ST "coder" "B", .code IsL.yN IsL.yB 1 (some .boolean), .methodLink ST 492 IsL.yN, .declares IsL.yN, .selects ST IsL.yN IsL.yN, .instanceMethod IsL.yN,
  .methodLink ST 495 LChA.yN, .static LChA.yN, .code LChA.yN LChA.yB 2 (some .char), .initialized "java/lang/StringLatin1", .methodLink "java/lang/StringLatin1" 9 JO.Str_checkIndex.yN, .static JO.Str_checkIndex.yN, .code JO.Str_checkIndex.yN JO.Str_checkIndex.yB 2 none,
  .fieldLink ST 1053 "jdk/internal/util/Preconditions" "SIOOBE_FORMATTER" "Ljava/util/function/BiFunction;", .methodLink ST 1059 JC.PreCheck.yN, .static JC.PreCheck.yN, .code JC.PreCheck.yN JC.PreCheck.yB 3 (some .int), .initialized "jdk/internal/util/Preconditions"]
theorem tabChN_of {a : Array Value} {s : State} (h : ∀ w ∈ wordsChN, w.before a s = true) : ChN.tab.before a s = true := by
  have hp : JC.PreCheck.tab.before a s = true := unparts (wk h (.code JC.PreCheck.yN JC.PreCheck.yB 3 (some .int))) (wks h (.initialized JC.PreCheck.yN.cls :: JC.PreCheck.site))
  have qk := consq hp h
  have hk : JO.Str_checkIndex.tab.before a s = true := unparts (wk qk (.code JO.Str_checkIndex.yN JO.Str_checkIndex.yB 2 none)) (wks qk (.initialized JO.Str_checkIndex.yN.cls :: JO.Str_checkIndex.site))
  have ql := consq hk h
  have hl : LChA.tab.before a s = true := unparts (wk ql (.code LChA.yN LChA.yB 2 (some .char))) (wks ql (.initialized LChA.yN.cls :: LChA.site))
  have hi : IsL.tab.before a s = true := unparts (wk h (.code IsL.yN IsL.yB 1 (some .boolean))) (wks h (.initialized IsL.yN.cls :: IsL.site))
  have q := consq hi (consq hl h)
  exact unparts (wk q (.code ChN.yN ChN.yB 2 (some .char))) (wks q (.initialized ChN.yN.cls :: ChN.site))
theorem movedChN {Z s : State} {a0 args : Array Value} (hZ : Z.Warmed39 s.vm) (hw : ∀ d ∈ wordsChN, d.before a0 Z = true) : ∀ d ∈ wordsChN, d.before args s = true := fun d hd => by
  have t : ∀ d ∈ wordsChN, (d.onTables && d.keepsFace) = true := by decide +kernel
  exact RoadKit.mv hZ (hw d hd) (t d hd)
/-- **charAt(i) OF A LATIN-1 STRING**, i < n: the char -/
theorem chN {p : Program} {l : Launch} {e : Env} {R : Room} {s : State} {args : Array Value} {below : List Frame} {len W : Nat} {Z : State} {a0 : Array Value} {h : Heap} (hZ : Z.Warmed39 s.vm) (hw : ∀ d ∈ wordsChN, d.before a0 Z = true) {kI : Nat} (wi : (Jvm.Cond.instantiable ST kI).before a0 Z = true)
    {x t : Addr} {kb : ClassId} {cs : List Int32} {N2 z : Int32} {vs : List Value} {fm : Value} {i : Nat} {j : Int32} (E : RoadKit.Exa Z h x ST) (V : RoadKit.Fld Z h x ST "value" "[B" (.ref t)) (C : RoadKit.Fld Z h x ST "coder" "B" (.int 0)) (K : RoadKit.Arv Z h t kb .byte N2 vs (.int 0)) (hc : CodA cs 0 N2 vs) (hb : ∀ c ∈ cs, ¬ c < 0 ∧ ¬ (65535 : Int32) < c)
    (S : RoadKit.Sta Z h ST "COMPACT_STRINGS" "Z" (.int z)) (hz : ¬ z = 0) (F : RoadKit.Sta Z h "jdk/internal/util/Preconditions" "SIOOBE_FORMATTER" "Ljava/util/function/BiFunction;" fm) (rf : fm.isRef = true) (l2 : cs.length ≤ 4000) (hi : i < cs.length) (hj : j = Int32.ofNat i) (hfr : 4 ≤ R.frames) (hlo : W + 53 ≤ R.locals) :
    Back l R p e below s args (⟨"java/lang/String", "charAt", "(I)C"⟩ : MethodName) len W (fun P a => a = #[.ref x, .int j] ∧ P.U.heap = h ∧ P.cells + 0 ≤ R.cells ∧ P.slots + 0 ≤ R.slots)
      (fun P _ v B => ∃ L, (v = some (.int (cs.getD i 0)) ∧ L = [] ∧ B.U.heap = h) ∧ B.locs = P.locs ++ L ∧ B.cells = P.cells + 0 ∧ B.slots = P.slots + 0) := by
  subst hj
  intro m meth c P g ig mk a X hg hsize hdg hW hn hp'
  obtain ⟨rfl, rfl, r1, r2⟩ := hp'
  have al : Z.vm.Alike P.U.vm := hZ.alike.trans X.warmed.alike
  obtain ⟨A, hx⟩ := txt_of wi al E V C K hc hb l2
  obtain ⟨v, B, X', ⟨⟨hv, hh⟩, hl, hk, hs⟩, st⟩ := ChN.pays x t A cs.length (fun j => cs.getD j 0) z fm i (tabChN_of (movedChN hZ hw)) hfr hlo m meth c P g ig mk _ X hg hsize hdg hW hn ⟨r1, r2, rfl, hx, hi, sta_is al S, hz, sta_is al F, rf⟩
  exact ⟨v, B, X', ⟨[], ⟨hv, rfl, hh⟩, hl, hk, hs⟩, st⟩
/-- what backV says of its String, as the contracts of this text ask it: cs's low bytes, coder 0 -/
theorem codOf {cs : List Int32} {n : Nat} (hn : cs.length = n) (hb : ∀ c ∈ cs, ¬ 255 < c) : CodA cs 0 (Int32.ofNat n) ((cs.map lo8).map Value.int) := Or.inl ⟨rfl, by rw [hn], by simp [List.map_map, Function.comp_def], hb⟩
end StrChars.Road
end Jvm.Pilot.@@N@@
namespace Jvm.Pilot.@@N@@
open Jvm Jvm.ClassFile Sem Op Lib Jvm.Free Jvm.Stand Jvm.LawKit Jvm.RoadKit Bundle Jvm.Pilot.@@N@@.Jvm.D
/-- a byte as a char: 0 to 255 -/
def own_B (x : Int32) : Prop := ∃ k : Fin 256, x = Int32.ofNat k.val
theorem own_B.lit (k : Fin 256) : own_B (Int32.ofNat k.val) := ⟨k, rfl⟩
theorem own_B.rng {x : Int32} (h : own_B x) : ¬ x < 0 ∧ ¬ (255 : Int32) < x := by
  obtain ⟨k, rfl⟩ := h
  have t : ∀ k : Fin 256, ¬ (Int32.ofNat k.val) < 0 ∧ ¬ (255 : Int32) < (Int32.ofNat k.val) := by decide +kernel
  exact t k
theorem own_B.rng2 {x : Int32} (h : own_B x) : ¬ x < 0 ∧ ¬ (65535 : Int32) < x := by
  obtain ⟨k, rfl⟩ := h
  have t : ∀ k : Fin 256, ¬ (Int32.ofNat k.val) < 0 ∧ ¬ (65535 : Int32) < (Int32.ofNat k.val) := by decide +kernel
  exact t k
theorem own_B.nar {x : Int32} (h : own_B x) : nar .char x = x := by
  obtain ⟨k, rfl⟩ := h
  have t : ∀ k : Fin 256, Jvm.RoadKit.nar .char (Int32.ofNat k.val) = Int32.ofNat k.val := by decide +kernel
  exact t k
theorem own_and255 (x : Int32) : own_B (x &&& (255 : Int32)) := by
  have h : (x &&& 255).toBitVec.toNat < 256 := by
    simp only [Int32.toBitVec_and, BitVec.toNat_and]
    exact Nat.lt_succ_of_le Nat.and_le_right
  refine ⟨⟨_, h⟩, ?_⟩
  apply Int32.toBitVec_inj.mp
  apply BitVec.eq_of_toNat_eq
  simp only [Int32.toBitVec_ofNat', BitVec.toNat_ofNat]
  rw [Nat.mod_eq_of_lt (Nat.lt_of_lt_of_le h (by decide))]
theorem own_i2c {x : Int32} (h : own_B x) : x.toUInt32.toUInt16.toUInt32.toInt32 = x := h.nar
theorem own_bI (x : Int32) : ∃ c : Int32, own_B c ∧ ((x &&& (255 : Int32)).toUInt32.toUInt16.toUInt32.toInt32) = c := ⟨_, by rw [own_i2c (own_and255 x)]; exact own_and255 x, rfl⟩
theorem own_ofInt {x : Int32} {n : Nat} (h : x.toInt = (n : Int)) : x = Int32.ofNat n := by
  have : x = Int32.ofInt x.toInt := (Int32.ofInt_toInt x).symm
  rw [this, h]; rfl
theorem own_bL (x : Int64) : ∃ c : Int32, own_B c ∧ (((x &&& (255 : Int64)).toInt32).toUInt32.toUInt16.toUInt32.toInt32) = c := by
  have h1 := c_maskL x 255 8 (by decide) rfl
  have h2 : 0 ≤ (x &&& 255).toInt := by rw [h1]; exact Int.emod_nonneg _ (by decide)
  have h3 : (x &&& 255).toInt < 256 := by rw [h1]; exact Int.emod_lt_of_pos _ (by decide)
  have h4 : ((x &&& 255).toInt32).toInt = ((x &&& 255).toInt.toNat : Int) := by
    rw [Int64.toInt_toInt32, Int.toNat_of_nonneg h2, Int.bmod_eq_of_le (by omega) (by omega)]
  have h5 := own_ofInt h4
  have hB : own_B ((x &&& (255 : Int64)).toInt32) := ⟨⟨(x &&& 255).toInt.toNat, by omega⟩, h5⟩
  exact ⟨_, by rw [own_i2c hB]; exact hB, rfl⟩
theorem own_rem (x : Int32) (d : Nat) (h0 : 0 < d) (hd : (Int32.ofNat d).toInt = (d : Int)) : ∃ j : Fin d, ((x &&& (2147483647 : Int32)) % (Int32.ofNat d)) = Int32.ofNat j.val := by
  have h1 := (c_and x 2147483647 (by decide)).1
  have h2 := (c_irem (x &&& 2147483647) (Int32.ofNat d) d hd).1 h1
  have h3 : 0 ≤ (x &&& 2147483647).toInt % (d : Int) := Int.emod_nonneg _ (by omega)
  have h4 : (x &&& 2147483647).toInt % (d : Int) < (d : Int) := Int.emod_lt_of_pos _ (by omega)
  refine ⟨⟨((x &&& 2147483647).toInt % (d : Int)).toNat, by omega⟩, own_ofInt ?_⟩
  rw [h2]; exact (Int.toNat_of_nonneg h3).symm
/-- a Bool as the machine's int -/
def own_i (b : Bool) : Int32 := if b then 1 else 0
theorem own_i0 (b : Bool) : own_i b = (0 : Int32) ↔ b = false := by cases b <;> decide
theorem own_iT {b : Bool} (h : b = true) : ¬ (own_i b = (0 : Int32)) := by subst h; decide
theorem own_iF {b : Bool} (h : b = false) : own_i b = (0 : Int32) := by subst h; rfl
theorem own_inar (b : Bool) : nar .boolean (own_i b) = own_i b := by cases b <;> decide
theorem own_getD (cs : List Int32) (n : Nat) : (cs.map Value.int).getD n (.int 0) = .int (cs.getD n 0) := by
  simp only [List.getD_eq_getElem?_getD, List.getElem?_map]
  cases cs[n]? <;> rfl
theorem own_lt32 {i n : Nat} (hi : i < 2147483648) (hn : n < 2147483648) : (Int32.ofNat i < Int32.ofNat n) ↔ i < n := by
  rw [Int32.lt_iff_toInt_lt, Int32.toInt_ofNat_of_lt hi, Int32.toInt_ofNat_of_lt hn]; omega
theorem own_succ (i : Nat) : Int32.ofNat i + (1 : Int32) = Int32.ofNat (i + 1) := by
  rw [Int32.ofNat_add]; rfl
theorem own_nil : ∀ c ∈ ([] : List Int32), own_B c := fun _ h => nomatch h
theorem own_cons {a : Int32} {l : List Int32} (h : own_B a) (t : ∀ c ∈ l, own_B c) : ∀ c ∈ a :: l, own_B c := fun c hc => (List.mem_cons.mp hc).elim (fun e => e ▸ h) (t c)
theorem own_Bl (k : Nat) (h : k < 256) : own_B (Int32.ofNat k) := ⟨⟨k, h⟩, rfl⟩
/-- the bytes of some chars -/
def own_bv (bs : List Int32) : List Value := (bs.map (fun c : Int32 => c.toInt8.toInt32)).map Value.int
/-- a StringBuilder that holds bs, in an array of L bytes -/
def own_SB (Z : State) (h : Heap) (b t : Addr) (kb : ClassId) (L : Nat) (bs : List Int32) : Prop :=
  Exa Z h b "java/lang/StringBuilder" ∧ Fld Z h b "java/lang/AbstractStringBuilder" "count" "I" (.int (Int32.ofNat bs.length)) ∧ Fld Z h b "java/lang/AbstractStringBuilder" "coder" "B" (.int (0 : Int32)) ∧ Fld Z h b "java/lang/AbstractStringBuilder" "value" "[B" (.ref t) ∧
  Arv Z h t kb .byte (Int32.ofNat L) (own_bv bs) (.int (0 : Int32)) ∧ Exa Z h t "[B" ∧ bs.length ≤ L ∧ L ≤ 4000 ∧ b ≠ t ∧ Z.heap.size ≤ b ∧ Z.heap.size ≤ t
theorem own_sh0 (x : Int32) : (x >>> ((0 : Int32) &&& 31)) = x := by
  have : ((0 : Int32) &&& 31) = 0 := rfl
  rw [this]; apply Int32.toBitVec_inj.mp; simp
theorem own_sl0 (x : Int32) : (x <<< ((0 : Int32) &&& 31)) = x := by
  have : ((0 : Int32) &&& 31) = 0 := rfl
  rw [this]; apply Int32.toBitVec_inj.mp; simp
theorem own_addN (a b : Nat) : (Int32.ofNat a + Int32.ofNat b) = Int32.ofNat (a + b) := (Int32.ofNat_add ..).symm
theorem own_subN {a b : Nat} (h : b ≤ a) : (Int32.ofNat a - Int32.ofNat b) = Int32.ofNat (a - b) := by
  have := own_addN (a - b) b
  rw [Nat.sub_add_cancel h] at this
  rw [← this]; apply Int32.toBitVec_inj.mp; simp
theorem own_clamp {a : Nat} (h : a < 2147483648) : (Int32.ofNat a).toNatClampNeg = a := by
  simp only [Int32.toNatClampNeg]
  rw [show (Int32.ofNat a).toInt = (a : Int) from Int32.toInt_ofNat_of_lt (by omega)]; rfl
theorem own_nneg {a : Nat} (h : a < 2147483648) : ¬ (Int32.ofNat a < 0) := by
  rw [Int32.lt_iff_toInt_lt, show (Int32.ofNat a).toInt = (a : Int) from Int32.toInt_ofNat_of_lt (by omega)]
  show ¬ ((a : Int) < 0); omega
theorem own_cpL (vs vd : List Value) (dv : Value) (s d n : Nat) (hl : d + n ≤ vd.length) (i : Nat) :
    (vd.take d ++ (List.range n).map (fun i => vs.getD (s + i) dv) ++ vd.drop (d + n)).getD i dv = if i < d then vd.getD i dv else if i < d + n then vs.getD (s + (i - d)) dv else vd.getD i dv := by
  have l1 : (vd.take d).length = d := by simp; omega
  have l2 : ((List.range n).map (fun i => vs.getD (s + i) dv)).length = n := by simp
  simp only [List.getD_eq_getElem?_getD]
  by_cases h1 : i < d
  · rw [if_pos h1, List.append_assoc, List.getElem?_append_left (by omega), List.getElem?_take]; simp [h1]
  · rw [if_neg h1]
    by_cases h2 : i < d + n
    · rw [if_pos h2, List.getElem?_append_left (by simp; omega), List.getElem?_append_right (by omega), l1]
      simp [List.getElem?_map, List.getElem?_range (show i - d < n by omega)]
    · rw [if_neg h2, List.getElem?_append_right (by simp; omega)]
      simp only [List.length_append, List.length_map, List.length_range, l1, List.getElem?_drop]
      rw [show d + n + (i - (d + n)) = i by omega]
theorem own_bvL (bs : List Int32) : (own_bv bs).length = bs.length := by simp [own_bv]
theorem own_bvA (bs cs : List Int32) : own_bv (bs ++ cs) = own_bv bs ++ own_bv cs := by simp [own_bv]
theorem own_gdA (us ws : List Value) (dv : Value) (i : Nat) : (us ++ ws).getD i dv = if i < us.length then us.getD i dv else ws.getD (i - us.length) dv := by
  simp only [List.getD_eq_getElem?_getD]
  split
  · rw [List.getElem?_append_left (by assumption)]
  · rw [List.getElem?_append_right (by omega)]
theorem own_gd0 (us : List Value) (dv : Value) (i : Nat) (h : us.length ≤ i) : us.getD i dv = dv := by simp [List.getD_eq_getElem?_getD, List.getElem?_eq_none h]
theorem own_gdR (n : Nat) (dv : Value) (i : Nat) : (List.replicate n dv).getD i dv = dv := by
  simp only [List.getD_eq_getElem?_getD, List.getElem?_replicate]; split <;> rfl

section OwnSB
variable {p : Program} {l : Launch} {e : Env} {R : Room} {s : State} {m : MethodId} {args : Array Value} {below : List Frame} {meth : Method} {c : Code} {T S0 Z : State} {locs : List Loc} {cells slots : Nat} {a0 : Array Value} {h h0 : Heap} {own C : String} {index count : Nat} {y z : MethodName} {mx : Nat}
theorem own_same {y2 : MethodName} {D : String} (hc : y2.cls = y.cls) (w : (Cond.instanceMethod y).before a0 Z = true) (w2 : (Cond.instanceMethod y2).before a0 Z = true) (w3 : (Cond.selects D y2 y2).before a0 Z = true) (hy : y.cls ≠ "java/lang/invoke/MethodHandle" ∧ y.cls ≠ "java/lang/invoke/VarHandle") : (Cond.sameMethod y.cls y.cls y.name y.desc).before a0 Z = true := by
  obtain ⟨m, meth, hn, -⟩ := Cond.instanceMethod_spec w
  obtain ⟨m2, meth2, hn2, -⟩ := Cond.instanceMethod_spec w2
  obtain ⟨kr, hkr, hni⟩ := notFace_of_selects (args := a0) w3 m2 hn2
  have hf := State.methodFound?_of_named hn hy
  have q1 := findClass_of_methodNamed hn
  have q2 := findClass_of_methodNamed hn2
  rw [hc] at q2
  have q3 : m.cls = m2.cls := Option.some.inj (q1.symm.trans q2)
  rw [← q3] at hkr
  have hn' : Z.methodNamed? ⟨y.cls, y.name, y.desc⟩ = some m := hn
  simp [Cond.before, Cond.holds, Cond.value, q1, hf, hn', hkr, hni]
theorem own_decl {bytes' : ByteArray} {mx' : Nat} {rt' : Option FieldType} (w : (Cond.instanceMethod y).before a0 Z = true) (wc : (Cond.code y bytes' mx' rt').before a0 Z = true) : (Cond.declares y).before a0 Z = true := by
  obtain ⟨m, meth, hn, hm, hs, -⟩ := Cond.instanceMethod_spec w
  obtain ⟨m2, cM, q1, -, -, -, -, -, -, hsig⟩ := Cond.code_spec hn wc
  cases hm.symm.trans q1
  simp [Cond.before, Cond.holds, Cond.value, hn, hm, hs, hsig]
theorem own_nf {y2 : MethodName} {D : String} (hc : y2.cls = y.cls) (w2 : (Cond.instanceMethod y2).before a0 Z = true) (w3 : (Cond.selects D y2 y2).before a0 Z = true) : NotFace Z y := fun r0 h0 => by
  obtain ⟨m2, meth2, hn2, -⟩ := Cond.instanceMethod_spec w2
  obtain ⟨kr, hkr, hni⟩ := notFace_of_selects (args := a0) w3 m2 hn2
  have q1 := findClass_of_methodNamed h0
  have q2 := findClass_of_methodNamed hn2
  rw [hc] at q2
  have q3 : r0.cls = m2.cls := Option.some.inj (q1.symm.trans q2)
  exact ⟨kr, by rw [q3]; exact hkr, hni⟩
variable {W kc ks : Nat} {Q : Option Value → Heap → List Loc → Prop} {g : JFrame} {argsL rest : List Value} {b : Addr}
theorem own_super (X : Stand p l e R s m args below meth c T locs cells slots) (hx : p.tables.exec = Jvm.exec) (hml : c.maxLocals = mx) (hZ : Z.Warmed39 s.vm) (hown : s.vm.findClass own = some m.cls) {bytes' : ByteArray} {mx' : Nat} {rt' : Option FieldType} (hn : y.name ≠ "<init>")
    (w1 : (Cond.methodLink own index y).before a0 Z = true) (w2 : (Cond.sameMethod y.cls y.cls y.name y.desc).before a0 Z = true) (w3 : (Cond.instanceMethod y).before a0 Z = true) (w4 : (Cond.superclass own y.cls).before a0 Z = true) (wc : (Cond.code y bytes' mx' rt').before a0 Z = true)
    (hK : own_Pay l R p e below s args y 3 W (.ref b :: argsL).toArray h kc ks Q) {K : String} (E : Exa Z h b K) (cm : Steps p.tables e below S0 (T.setTop g)) (hlen : ∀ sig, parseMethodDescriptor y.desc = some sig → argsL.length = sig.parameters.length) (hst : g.stack = argsL.reverse ++ .ref b :: rest) (hd : decode c.code g.pc = .ok (.invokespecial index, 3)) (eT : T.heap = h) (hc : cells + kc ≤ R.cells := by decide) (hs : slots + ks ≤ R.slots := by decide) (hg : g.method = m := by rfl) (hsz : g.locals.size = mx := by rfl) (hW : 2 * g.monitorRoom + (rest.map fun v => v.category).sum ≤ W := by show 2 * 0 + _ ≤ _; exact Nat.le_of_eq rfl) :
    ∃ (v : Option Value) (T' : State) (L : List Loc), Stand p l e R s m args below meth c T' (locs ++ L) (cells + kc) (slots + ks) ∧ Q v T'.heap L ∧ Steps p.tables e below S0 (T'.setTop { g with pc := g.pc + 3, stack := v.toList ++ rest }) := by
  obtain ⟨v, _, ⟨T', L', k', n'⟩, -, X', ⟨L, hQ, l1, l2, l3⟩, st⟩ := superBack X hx hZ hown w1 w2 w3 w4 hn hK eT (Ins.self E) hg (by rw [hml]; exact hsz) wc (argsL := argsL) (rest := rest) hlen hst hW hd (fun _ _ => ⟨rfl, eT, hc, hs⟩)
  dsimp only [Pt.U, Pt.locs, Pt.cells, Pt.slots] at X' l1 l2 l3 st hQ
  subst l1 l2 l3
  exact ⟨v, T', L, X', hQ, cm.trans st⟩
theorem own_virtN (X : Stand p l e R s m args below meth c T locs cells slots) (hx : p.tables.exec = Jvm.exec) (hml : c.maxLocals = mx) (hZ : Z.Warmed39 s.vm) (hown : s.vm.findClass own = some m.cls)
    (w1 : (Cond.methodLink own index y).before a0 Z = true) (w2 : (Cond.declares y).before a0 Z = true) (w3 : (Cond.selects C y z).before a0 Z = true) (w4 : (Cond.instanceMethod z).before a0 Z = true) {Dn : String} {y2 : MethodName} (hc2 : y2.cls = y.cls) (w6 : (Cond.instanceMethod y2).before a0 Z = true) (w5 : (Cond.selects Dn y2 y2).before a0 Z = true) (hy : y.cls ≠ "java/lang/invoke/MethodHandle" ∧ y.cls ≠ "java/lang/invoke/VarHandle")
    (hK : own_Pay l R p e below s args z 3 W (.ref b :: argsL).toArray h kc ks Q) (E : Exa Z h b C) (cm : Steps p.tables e below S0 (T.setTop g)) (hlen : ∀ sig, parseMethodDescriptor y.desc = some sig → argsL.length = sig.parameters.length) (hst : g.stack = argsL.reverse ++ .ref b :: rest) (hd : decode c.code g.pc = .ok (.invokevirtual index, 3)) (eT : T.heap = h) (hc : cells + kc ≤ R.cells := by decide) (hs : slots + ks ≤ R.slots := by decide) (hg : g.method = m := by rfl) (hsz : g.locals.size = mx := by rfl) (hW : 2 * g.monitorRoom + (rest.map fun v => v.category).sum ≤ W := by show 2 * 0 + _ ≤ _; exact Nat.le_of_eq rfl) :
    ∃ (v : Option Value) (T' : State) (L : List Loc), Stand p l e R s m args below meth c T' (locs ++ L) (cells + kc) (slots + ks) ∧ Q v T'.heap L ∧ Steps p.tables e below S0 (T'.setTop { g with pc := g.pc + 3, stack := v.toList ++ rest }) := by
  obtain ⟨cq, kq, qa, qb, qc⟩ := isOf hZ eT E
  obtain ⟨v, _, ⟨T', L', k', n'⟩, -, X', ⟨L, hQ, l1, l2, l3⟩, st⟩ := X.virtualBack hx (y := y) (z := z) hown (mvT hZ w1) (mvT hZ w2) (own_nf (a0 := #[]) hc2 (mvT hZ w6) (mvT hZ w5)) (mvT hZ w3) (mvT hZ w4) hy hK qa qc hg (by rw [hml]; exact hsz) cm (argsL := argsL) (rest := rest) hlen hst hW hd (fun _ _ => ⟨rfl, eT, hc, hs⟩)
  dsimp only [Pt.U, Pt.locs, Pt.cells, Pt.slots] at X' l1 l2 l3 st hQ
  subst l1 l2 l3
  exact ⟨v, T', L, X', hQ, st⟩
theorem own_cloneV (X : Stand p l e R s m args below meth c T locs cells slots) (hx : p.tables.exec = Jvm.exec) (hZ : Z.Warmed39 s.vm) {ad : String} (hown : s.vm.findClass own = some m.cls)
    (w1 : (Cond.methodLink own index ⟨ad, "clone", "()Ljava/lang/Object;"⟩).before a0 Z = true) (w2 : (Cond.sameMethod ad "java/lang/Object" "clone" "()Ljava/lang/Object;").before a0 Z = true) (w3 : (Cond.native ⟨"java/lang/Object", "clone", "()Ljava/lang/Object;"⟩).before a0 Z = true)
    (w4 : (Cond.instanceMethod ⟨"java/lang/Object", "clone", "()Ljava/lang/Object;"⟩).before a0 Z = true) (w5 : (Cond.selects ad ⟨ad, "clone", "()Ljava/lang/Object;"⟩ ⟨"java/lang/Object", "clone", "()Ljava/lang/Object;"⟩).before a0 Z = true) (w6 : (Cond.castable ad "java/lang/Cloneable").before a0 Z = true)
    (eT : T.heap = h) {a : Addr} {k : ClassId} {ty : FieldType} {z : Int32} {vs : List Value} {dv : Value} (F : Arv Z h a k ty z vs dv) (E : Exa Z h a ad) {g : JFrame} (hg : g.method = m) (hsize : g.locals.size = c.maxLocals) {rest : List Value} (hst : g.stack = .ref a :: rest) (hd : decode c.code g.pc = .ok (.invokevirtual index, 3))
    (hf : 1 ≤ R.frames) {W cap : Nat} (hW : 2 * g.monitorRoom + (rest.map fun v => v.category).sum ≤ W) (hl : W + 14 ≤ R.locals) (hcap : z.toNatClampNeg ≤ cap) (hc : cells + 1 ≤ R.cells) (hsl : slots + cap ≤ R.slots) :
    ∃ T' h', Stand p l e R s m args below meth c T' locs (cells + 1) (slots + cap) ∧ T'.heap = h' ∧ Ext h h' ∧ Arv Z h' h.size k ty z vs dv ∧ Exa Z h' h.size ad ∧
      ∀ target, Steps p.tables e below (T'.setTop { g with pc := g.pc + 3, stack := .ref h.size :: rest }) target → Steps p.tables e below (T.setTop g) target := by
  obtain ⟨cl, A, q1, S, q3, H, G⟩ := F
  have FC : FitC Z cl := fitC_of A fun i hi v hv => by rw [H i hi] at hv; cases hv; exact G i hi
  obtain ⟨T', h', X', e', ex, A', E', st⟩ := cloneA X hx hZ hown w1 w2 w3 w4 w5 w6 eT A E FC hg hsize hst hd hf hW hl (by rw [S]; exact hcap) hc hsl
  exact ⟨T', h', X', e', ex, ⟨cloneOf cl, A', q1, S, q3, H, G⟩, E', st⟩
theorem own_cpV (X : Stand p l e R s m args below meth c T locs cells slots) (hx : p.tables.exec = Jvm.exec) (hZ : Z.Warmed39 s.vm) (hown : s.vm.findClass own = some m.cls)
    (w1 : (Cond.methodLink own index Jvm.Stand.acN).before a0 Z = true) (w2 : (Cond.native Jvm.Stand.acN).before a0 Z = true) (w3 : (Cond.static Jvm.Stand.acN).before a0 Z = true) (w4 : (Cond.initialized "java/lang/System").before a0 Z = true) (eT : T.heap = h)
    {a b : Addr} {k k' : ClassId} {ty : FieldType} {vs vd : List Value} {dv : Value} (La Lb sN dN nN : Nat) (A : Arv Z h a k ty (Int32.ofNat La) vs dv) (B : Arv Z h b k' ty (Int32.ofNat Lb) vd dv) (hp : refKind ty = false) (h4 : sN + nN ≤ La) (h5 : dN + nN ≤ Lb) (hLa : La < 2147483648) (hLb : Lb < 2147483648)
    (ws : List Value) (hws : ∀ i, ws.getD i dv = if i < dN then vd.getD i dv else if i < dN + nN then vs.getD (sN + (i - dN)) dv else vd.getD i dv) {n0 : Nat} (N : Fr n0 locs) (ge : n0 ≤ b)
    {g : JFrame} (hg : g.method = m) (hsize : g.locals.size = c.maxLocals) {rest : List Value} (hs : g.stack = .int (Int32.ofNat nN) :: .int (Int32.ofNat dN) :: .ref b :: .int (Int32.ofNat sN) :: .ref a :: rest) (hd : decode c.code g.pc = .ok (.invokestatic index, 3))
    (hf : 1 ≤ R.frames) {W : Nat} (hW : 2 * g.monitorRoom + (rest.map fun v => v.category).sum ≤ W) (hlo : W + (nativeFrameWords "java/lang/System" "arraycopy" 5 + 11) ≤ R.locals) :
    ∃ T' h' L, Stand p l e R s m args below meth c T' L cells slots ∧ T'.heap = h' ∧ Fr n0 L ∧ Keep h h' [b] ∧ Arv Z h' b k' ty (Int32.ofNat Lb) ws dv ∧
      ∀ target, Steps p.tables e below (T'.setTop { g with pc := g.pc + 3, stack := rest }) target → Steps p.tables e below (T.setTop g) target := by
  have cs : (Int32.ofNat sN).toNatClampNeg = sN := own_clamp (by omega)
  have cd : (Int32.ofNat dN).toNatClampNeg = dN := own_clamp (by omega)
  have cn : (Int32.ofNat nN).toNatClampNeg = nN := own_clamp (by omega)
  have cA : (Int32.ofNat La).toNatClampNeg = La := own_clamp hLa
  have cB : (Int32.ofNat Lb).toNatClampNeg = Lb := own_clamp hLb
  obtain ⟨T', h', L, X', e', N', K, V, st⟩ := cpA X hx hZ hown w1 w2 w3 w4 eT (us := (List.range nN).map fun i => vs.getD (sN + i) dv) A (B.pad (pad_rep vd dv (dN + nN))) (Or.inl ⟨rfl, hp⟩) (own_nneg (by omega)) (own_nneg (by omega)) (own_nneg (by omega)) (by rw [cs, cn, cA]; exact h4) (by rw [cd, cn, cB]; exact h5) (by rw [cs, cn]) (by rw [cd, cn]; simp) N ge hg hsize hs hd hf hW hlo
  rw [cd, cn] at V
  exact ⟨T', h', L, X', e', N', K, V.pad fun i => by rw [hws, own_cpL _ _ _ _ _ _ (by simp), pad_rep], st⟩
end OwnSB
theorem own_bvSet (bs : List Int32) (c : Int32) : (own_bv bs ++ [Value.int (0 : Int32)]).set bs.length (.int (c.toInt8.toInt32)) = own_bv (bs ++ [c]) := by
  rw [own_bvA, List.set_append_right _ _ (by rw [own_bvL]; exact Nat.le_refl _)]; simp [own_bv]
theorem own_len1 (bs : List Int32) (c : Int32) : (Int32.ofNat bs.length + (1 : Int32)) = Int32.ofNat (bs ++ [c]).length := by rw [own_succ]; simp
theorem own_subI {a b : Nat} (ha : a < 2147483648) (hb : b < 2147483648) : (Int32.ofNat a - Int32.ofNat b).toInt = (a : Int) - (b : Int) := by
  rw [Int32.toInt_sub, Int32.toInt_ofNat_of_lt ha, Int32.toInt_ofNat_of_lt hb, Int.bmod_eq_of_le (by omega) (by omega)]
theorem own_sub0 {a b : Nat} (h : a ≤ b) (hb : b < 2147483648) : ¬ (0 : Int32) < (Int32.ofNat a - Int32.ofNat b) := by
  rw [Int32.lt_iff_toInt_lt, own_subI (by omega) hb]; show ¬ ((0 : Int) < _); omega
theorem own_sub1 {a b : Nat} (h : b < a) (ha : a < 2147483648) : (0 : Int32) < (Int32.ofNat a - Int32.ofNat b) := by
  rw [Int32.lt_iff_toInt_lt, own_subI ha (by omega)]; show ((0 : Int) < _); omega
theorem own_neN {a b : Nat} (ha : a < 2147483648) (hb : b < 2147483648) (h : a ≠ b) : ¬ (Int32.ofNat a = Int32.ofNat b) := fun q => h (by
  have := congrArg Int32.toInt q
  rw [Int32.toInt_ofNat_of_lt ha, Int32.toInt_ofNat_of_lt hb] at this; omega)
theorem own_maxN {a b : Nat} (ha : a < 2147483648) (hb : b < 2147483648) : (if Int32.ofNat a < Int32.ofNat b then Int32.ofNat b else Int32.ofNat a) = Int32.ofNat (max a b) := by
  by_cases h : a < b
  · rw [if_pos ((own_lt32 ha hb).mpr h), Nat.max_eq_right (by omega)]
  · rw [if_neg (fun q => h ((own_lt32 ha hb).mp q)), Nat.max_eq_left (by omega)]
theorem own_minN {a b : Nat} (ha : a < 2147483648) (hb : b < 2147483648) : (if Int32.ofNat b < Int32.ofNat a then Int32.ofNat b else Int32.ofNat a) = Int32.ofNat (min a b) := by
  by_cases h : b < a
  · rw [if_pos ((own_lt32 hb ha).mpr h), Nat.min_eq_right (by omega)]
  · rw [if_neg (fun q => h ((own_lt32 hb ha).mp q)), Nat.min_eq_left (by omega)]
theorem own_cp0 (bs : List Int32) (L : Nat) (h : bs.length ≤ L) : ∀ i, (own_bv bs).getD i (.int (0 : Int32)) = if i < 0 then ([] : List Value).getD i (.int (0 : Int32)) else if i < 0 + L then (own_bv bs).getD (0 + (i - 0)) (.int (0 : Int32)) else ([] : List Value).getD i (.int (0 : Int32)) := fun i => by
  rw [if_neg (by omega), Nat.zero_add]
  split
  · simp
  · rw [own_gd0 _ _ _ (by rw [own_bvL]; omega)]; rfl
theorem own_sub00 (x : Int32) : (x - (0 : Int32)) = x := by apply Int32.toBitVec_inj.mp; simp
theorem own_cp1 (bs cs : List Int32) (k : Nat) (hk : k ≤ cs.length) : ∀ i, (own_bv (bs ++ cs.take k)).getD i (.int (0 : Int32)) = if i < bs.length then (own_bv bs).getD i (.int (0 : Int32)) else if i < bs.length + k then (own_bv cs).getD (0 + (i - bs.length)) (.int (0 : Int32)) else (own_bv bs).getD i (.int (0 : Int32)) := fun i => by
  have e : own_bv (cs.take k) = (own_bv cs).take k := by simp [own_bv, List.map_take]
  rw [own_bvA, own_gdA, own_bvL]
  split
  · rfl
  · rw [e, Nat.zero_add]
    split
    · simp only [List.getD_eq_getElem?_getD, List.getElem?_take]; rw [if_pos (by omega)]
    · rw [own_gd0 _ _ _ (by simp [own_bvL]; omega), own_gd0 _ _ _ (by rw [own_bvL]; omega)]
theorem own_lenA (bs cs : List Int32) (k : Nat) (hk : k ≤ cs.length) : (Int32.ofNat bs.length + (Int32.ofNat k - (0 : Int32))) = Int32.ofNat (bs ++ cs.take k).length := by
  rw [own_sub00, own_addN]; simp [Nat.min_eq_left hk]
theorem own_b2 (x : Int32) : x.toInt8.toInt32.toInt8.toInt32 = x.toInt8.toInt32 := by rw [Int8.toInt8_toInt32]
def own_at9 (cs : List Int32) (i : Nat) : Int32 := cs.getD i 0
def own_sp (c : Int32) : Bool := decide (c = (123 : Int32)) || decide (c = (125 : Int32)) || decide (c = (36 : Int32)) || decide (c = (92 : Int32))
def own_e1 (c : Int32) : List Int32 := if own_sp c then [92, c] else [c]
def own_esc (cs : List Int32) : List Int32 := cs.flatMap own_e1
theorem own_at9B {cs : List Int32} (hB : ∀ c ∈ cs, own_B c) {i : Nat} (hi : i < cs.length) : own_B (own_at9 cs i) := by
  have : own_at9 cs i = cs[i] := by simp [own_at9, List.getD_eq_getElem?_getD, List.getElem?_eq_getElem hi]
  rw [this]; exact hB _ (List.getElem_mem hi)
theorem own_takeS (cs : List Int32) (i : Nat) (hi : i < cs.length) : cs.take (i + 1) = cs.take i ++ [own_at9 cs i] := by
  have : own_at9 cs i = cs[i] := by simp [own_at9, List.getD_eq_getElem?_getD, List.getElem?_eq_getElem hi]
  rw [this]; exact List.take_succ_eq_append_getElem hi
theorem own_escS (cs : List Int32) (i : Nat) (hi : i < cs.length) : own_esc (cs.take (i + 1)) = own_esc (cs.take i) ++ own_e1 (own_at9 cs i) := by
  rw [own_takeS cs i hi]; simp [own_esc]
theorem own_esc1 (cs : List Int32) (i : Nat) (hi : i < cs.length) (h : own_sp (own_at9 cs i) = true) : (own_esc (cs.take i) ++ [(92 : Int32)]) ++ [own_at9 cs i] = own_esc (cs.take (i + 1)) := by
  rw [own_escS cs i hi]; simp [own_e1, h]
theorem own_esc0 (cs : List Int32) (i : Nat) (hi : i < cs.length) (h : own_sp (own_at9 cs i) = false) : own_esc (cs.take i) ++ [own_at9 cs i] = own_esc (cs.take (i + 1)) := by
  rw [own_escS cs i hi]; simp [own_e1, h]
theorem own_escL : ∀ cs : List Int32, (own_esc cs).length ≤ 2 * cs.length
  | [] => Nat.le_refl _
  | c :: r => by
    have := own_escL r
    have e : own_esc (c :: r) = own_e1 c ++ own_esc r := by simp [own_esc]
    rw [e, List.length_append, List.length_cons]
    have : (own_e1 c).length ≤ 2 := by simp only [own_e1]; split <;> simp
    omega
theorem own_escM : ∀ cs : List Int32, cs.length ≤ (own_esc cs).length
  | [] => Nat.le_refl _
  | c :: r => by
    have := own_escM r
    have e : own_esc (c :: r) = own_e1 c ++ own_esc r := by simp [own_esc]
    rw [e, List.length_append, List.length_cons]
    have : 1 ≤ (own_e1 c).length := by simp only [own_e1]; split <;> simp
    omega
theorem own_escT (cs : List Int32) (i : Nat) (hi : i ≤ cs.length) : (own_esc (cs.take i)).length ≤ 2 * i := by
  have := own_escL (cs.take i); simp [Nat.min_eq_left hi] at this; exact this
/-- a special sign makes it longer -/
theorem own_escG (cs : List Int32) (i : Nat) (hi : i < cs.length) (h : own_sp (own_at9 cs i) = true) : cs.length < (own_esc cs).length := by
  have e : cs = cs.take (i + 1) ++ cs.drop (i + 1) := (List.take_append_drop _ _).symm
  have e1 : own_esc cs = own_esc (cs.take (i + 1)) ++ own_esc (cs.drop (i + 1)) := (congrArg own_esc e).trans List.flatMap_append
  have q := own_escM (cs.drop (i + 1))
  have q2 := own_escM (cs.take i)
  rw [e1, ← own_esc1 cs i hi h]
  simp at q q2 ⊢
  omega
theorem own_escB {cs : List Int32} (hB : ∀ c ∈ cs, own_B c) : ∀ c ∈ own_esc cs, own_B c := fun c hc => by
  obtain ⟨d, hd, q⟩ := List.mem_flatMap.mp hc
  simp only [own_e1] at q
  split at q
  · rcases List.mem_cons.mp q with rfl | q
    · exact own_Bl 92 (by decide)
    · rw [List.mem_singleton.mp q]; exact hB d hd
  · rw [List.mem_singleton.mp q]; exact hB d hd
theorem own_kp {g0 h0 h1 : Heap} {b t : Addr} (KG : Keep g0 h0 []) (K : Keep h0 h1 [b, t]) (hb : g0.size ≤ b) (ht : g0.size ≤ t) : Keep g0 h1 [] := KG.trans K (allS (Or.inr hb) (allS (Or.inr ht) all0))
theorem own_tp {g0 h0 : Heap} {t t1 : Addr} (KG : Keep g0 h0 []) (ht : g0.size ≤ t) (q : t1 = t ∨ h0.size ≤ t1) : g0.size ≤ t1 := q.elim (fun e => e ▸ ht) (fun r => Nat.le_trans KG.1 r)
theorem own_drB (x : Int32) : own_B (nar .char ((x &&& (255 : Int32)).toUInt32.toUInt16.toUInt32.toInt32)) := by
  have h := own_and255 x
  rw [own_i2c h, h.nar]; exact h
theorem own_osSet (os : List Int32) (k : Int32) : (os.map Value.int ++ [Value.int (0 : Int32)]).set os.length (.int k) = (os ++ [k]).map Value.int := by
  rw [List.set_append_right _ _ (by simp)]; simp
theorem own_putL {os : List Int32} {k : Int32} {j : Nat} (h : os.length ≤ j) : (os ++ own_e1 k).length ≤ j + 2 := by
  have : (own_e1 k).length ≤ 2 := by simp only [own_e1]; split <;> simp
  simp; omega
theorem own_rem5 (x : Int32) : ((x &&& (2147483647 : Int32)) % (5 : Int32)) = 0 ∨ ((x &&& (2147483647 : Int32)) % (5 : Int32)) = 1 ∨ ((x &&& (2147483647 : Int32)) % (5 : Int32)) = 2 ∨ ((x &&& (2147483647 : Int32)) % (5 : Int32)) = 3 ∨ ((x &&& (2147483647 : Int32)) % (5 : Int32)) = 4 := by
  obtain ⟨j, ej⟩ := own_rem x 5 (by decide) (by decide)
  have ej' : ((x &&& (2147483647 : Int32)) % (5 : Int32)) = Int32.ofNat j.val := ej
  rw [ej']; clear ej ej'; revert j; decide
theorem own_strA : ∀ d ∈ Bundle.stringAtoms, d ∈ tables_1 := by decide +kernel
def EL : List (String × Nat) := consts_1
theorem d1_0 : decode method_2_code 0 = .ok (.iload_n 0, 1) := by decide +kernel
theorem d1_1 : decode method_2_code 1 = .ok (.bipush 7, 2) := by decide +kernel
theorem d1_3 : decode method_2_code 3 = .ok (.iand, 1) := by decide +kernel
theorem d1_4 : decode method_2_code 4 = .ok (.istore_n 1, 1) := by decide +kernel
theorem d1_5 : decode method_2_code 5 = .ok (.iload_n 1, 1) := by decide +kernel
theorem d1_6 : decode method_2_code 6 = .ok (.ifCond .ne 6, 3) := by decide +kernel
theorem d1_9 : decode method_2_code 9 = .ok (.bipush 123, 2) := by decide +kernel
theorem d1_11 : decode method_2_code 11 = .ok (.ireturn, 1) := by decide +kernel
theorem d1_12 : decode method_2_code 12 = .ok (.iload_n 1, 1) := by decide +kernel
theorem d1_13 : decode method_2_code 13 = .ok (.iconst 1, 1) := by decide +kernel
theorem d1_14 : decode method_2_code 14 = .ok (.if_icmp .ne 6, 3) := by decide +kernel
theorem d1_17 : decode method_2_code 17 = .ok (.bipush 125, 2) := by decide +kernel
theorem d1_19 : decode method_2_code 19 = .ok (.ireturn, 1) := by decide +kernel
theorem d1_20 : decode method_2_code 20 = .ok (.iload_n 1, 1) := by decide +kernel
theorem d1_21 : decode method_2_code 21 = .ok (.iconst 2, 1) := by decide +kernel
theorem d1_22 : decode method_2_code 22 = .ok (.if_icmp .ne 6, 3) := by decide +kernel
theorem d1_25 : decode method_2_code 25 = .ok (.bipush 36, 2) := by decide +kernel
theorem d1_27 : decode method_2_code 27 = .ok (.ireturn, 1) := by decide +kernel
theorem d1_28 : decode method_2_code 28 = .ok (.iload_n 1, 1) := by decide +kernel
theorem d1_29 : decode method_2_code 29 = .ok (.iconst 3, 1) := by decide +kernel
theorem d1_30 : decode method_2_code 30 = .ok (.if_icmp .ne 6, 3) := by decide +kernel
theorem d1_33 : decode method_2_code 33 = .ok (.bipush 92, 2) := by decide +kernel
theorem d1_35 : decode method_2_code 35 = .ok (.ireturn, 1) := by decide +kernel
theorem d1_36 : decode method_2_code 36 = .ok (.iload_n 0, 1) := by decide +kernel
theorem d1_37 : decode method_2_code 37 = .ok (.iconst 3, 1) := by decide +kernel
theorem d1_38 : decode method_2_code 38 = .ok (.iushr, 1) := by decide +kernel
theorem d1_39 : decode method_2_code 39 = .ok (.sipush 255, 3) := by decide +kernel
theorem d1_42 : decode method_2_code 42 = .ok (.iand, 1) := by decide +kernel
theorem d1_43 : decode method_2_code 43 = .ok (.i2c, 1) := by decide +kernel
theorem d1_44 : decode method_2_code 44 = .ok (.ireturn, 1) := by decide +kernel
theorem d2_0 : decode method_5_code 0 = .ok (.iload_n 0, 1) := by decide +kernel
theorem d2_1 : decode method_5_code 1 = .ok (.ifCond .ne 14, 3) := by decide +kernel
theorem d2_4 : decode method_5_code 4 = .ok (.new 13, 3) := by decide +kernel
theorem d2_7 : decode method_5_code 7 = .ok (.dup, 1) := by decide +kernel
theorem d2_8 : decode method_5_code 8 = .ok (.iconst 0, 1) := by decide +kernel
theorem d2_9 : decode method_5_code 9 = .ok (.newarray .char, 2) := by decide +kernel
theorem d2_11 : decode method_5_code 11 = .ok (.invokespecial 15, 3) := by decide +kernel
theorem d2_14 : decode method_5_code 14 = .ok (.areturn, 1) := by decide +kernel
theorem d2_15 : decode method_5_code 15 = .ok (.iload_n 0, 1) := by decide +kernel
theorem d2_16 : decode method_5_code 16 = .ok (.iconst 1, 1) := by decide +kernel
theorem d2_17 : decode method_5_code 17 = .ok (.if_icmp .ne 18, 3) := by decide +kernel
theorem d2_20 : decode method_5_code 20 = .ok (.new 13, 3) := by decide +kernel
theorem d2_23 : decode method_5_code 23 = .ok (.dup, 1) := by decide +kernel
theorem d2_24 : decode method_5_code 24 = .ok (.iconst 1, 1) := by decide +kernel
theorem d2_25 : decode method_5_code 25 = .ok (.newarray .char, 2) := by decide +kernel
theorem d2_27 : decode method_5_code 27 = .ok (.dup, 1) := by decide +kernel
theorem d2_28 : decode method_5_code 28 = .ok (.iconst 0, 1) := by decide +kernel
theorem d2_29 : decode method_5_code 29 = .ok (.iload_n 1, 1) := by decide +kernel
theorem d2_30 : decode method_5_code 30 = .ok (.castore, 1) := by decide +kernel
theorem d2_31 : decode method_5_code 31 = .ok (.invokespecial 15, 3) := by decide +kernel
theorem d2_34 : decode method_5_code 34 = .ok (.areturn, 1) := by decide +kernel
theorem d2_35 : decode method_5_code 35 = .ok (.iload_n 0, 1) := by decide +kernel
theorem d2_36 : decode method_5_code 36 = .ok (.iconst 2, 1) := by decide +kernel
theorem d2_37 : decode method_5_code 37 = .ok (.if_icmp .ne 22, 3) := by decide +kernel
theorem d2_40 : decode method_5_code 40 = .ok (.new 13, 3) := by decide +kernel
theorem d2_43 : decode method_5_code 43 = .ok (.dup, 1) := by decide +kernel
theorem d2_44 : decode method_5_code 44 = .ok (.iconst 2, 1) := by decide +kernel
theorem d2_45 : decode method_5_code 45 = .ok (.newarray .char, 2) := by decide +kernel
theorem d2_47 : decode method_5_code 47 = .ok (.dup, 1) := by decide +kernel
theorem d2_48 : decode method_5_code 48 = .ok (.iconst 0, 1) := by decide +kernel
theorem d2_49 : decode method_5_code 49 = .ok (.iload_n 1, 1) := by decide +kernel
theorem d2_50 : decode method_5_code 50 = .ok (.castore, 1) := by decide +kernel
theorem d2_51 : decode method_5_code 51 = .ok (.dup, 1) := by decide +kernel
theorem d2_52 : decode method_5_code 52 = .ok (.iconst 1, 1) := by decide +kernel
theorem d2_53 : decode method_5_code 53 = .ok (.iload_n 2, 1) := by decide +kernel
theorem d2_54 : decode method_5_code 54 = .ok (.castore, 1) := by decide +kernel
theorem d2_55 : decode method_5_code 55 = .ok (.invokespecial 15, 3) := by decide +kernel
theorem d2_58 : decode method_5_code 58 = .ok (.areturn, 1) := by decide +kernel
theorem d2_59 : decode method_5_code 59 = .ok (.iload_n 0, 1) := by decide +kernel
theorem d2_60 : decode method_5_code 60 = .ok (.iconst 3, 1) := by decide +kernel
theorem d2_61 : decode method_5_code 61 = .ok (.if_icmp .ne 26, 3) := by decide +kernel
theorem d2_64 : decode method_5_code 64 = .ok (.new 13, 3) := by decide +kernel
theorem d2_67 : decode method_5_code 67 = .ok (.dup, 1) := by decide +kernel
theorem d2_68 : decode method_5_code 68 = .ok (.iconst 3, 1) := by decide +kernel
theorem d2_69 : decode method_5_code 69 = .ok (.newarray .char, 2) := by decide +kernel
theorem d2_71 : decode method_5_code 71 = .ok (.dup, 1) := by decide +kernel
theorem d2_72 : decode method_5_code 72 = .ok (.iconst 0, 1) := by decide +kernel
theorem d2_73 : decode method_5_code 73 = .ok (.iload_n 1, 1) := by decide +kernel
theorem d2_74 : decode method_5_code 74 = .ok (.castore, 1) := by decide +kernel
theorem d2_75 : decode method_5_code 75 = .ok (.dup, 1) := by decide +kernel
theorem d2_76 : decode method_5_code 76 = .ok (.iconst 1, 1) := by decide +kernel
theorem d2_77 : decode method_5_code 77 = .ok (.iload_n 2, 1) := by decide +kernel
theorem d2_78 : decode method_5_code 78 = .ok (.castore, 1) := by decide +kernel
theorem d2_79 : decode method_5_code 79 = .ok (.dup, 1) := by decide +kernel
theorem d2_80 : decode method_5_code 80 = .ok (.iconst 2, 1) := by decide +kernel
theorem d2_81 : decode method_5_code 81 = .ok (.iload_n 3, 1) := by decide +kernel
theorem d2_82 : decode method_5_code 82 = .ok (.castore, 1) := by decide +kernel
theorem d2_83 : decode method_5_code 83 = .ok (.invokespecial 15, 3) := by decide +kernel
theorem d2_86 : decode method_5_code 86 = .ok (.areturn, 1) := by decide +kernel
theorem d2_87 : decode method_5_code 87 = .ok (.new 13, 3) := by decide +kernel
theorem d2_90 : decode method_5_code 90 = .ok (.dup, 1) := by decide +kernel
theorem d2_91 : decode method_5_code 91 = .ok (.iconst 4, 1) := by decide +kernel
theorem d2_92 : decode method_5_code 92 = .ok (.newarray .char, 2) := by decide +kernel
theorem d2_94 : decode method_5_code 94 = .ok (.dup, 1) := by decide +kernel
theorem d2_95 : decode method_5_code 95 = .ok (.iconst 0, 1) := by decide +kernel
theorem d2_96 : decode method_5_code 96 = .ok (.iload_n 1, 1) := by decide +kernel
theorem d2_97 : decode method_5_code 97 = .ok (.castore, 1) := by decide +kernel
theorem d2_98 : decode method_5_code 98 = .ok (.dup, 1) := by decide +kernel
theorem d2_99 : decode method_5_code 99 = .ok (.iconst 1, 1) := by decide +kernel
theorem d2_100 : decode method_5_code 100 = .ok (.iload_n 2, 1) := by decide +kernel
theorem d2_101 : decode method_5_code 101 = .ok (.castore, 1) := by decide +kernel
theorem d2_102 : decode method_5_code 102 = .ok (.dup, 1) := by decide +kernel
theorem d2_103 : decode method_5_code 103 = .ok (.iconst 2, 1) := by decide +kernel
theorem d2_104 : decode method_5_code 104 = .ok (.iload_n 3, 1) := by decide +kernel
theorem d2_105 : decode method_5_code 105 = .ok (.castore, 1) := by decide +kernel
theorem d2_106 : decode method_5_code 106 = .ok (.dup, 1) := by decide +kernel
theorem d2_107 : decode method_5_code 107 = .ok (.iconst 3, 1) := by decide +kernel
theorem d2_108 : decode method_5_code 108 = .ok (.iload 4, 2) := by decide +kernel
theorem d2_110 : decode method_5_code 110 = .ok (.castore, 1) := by decide +kernel
theorem d2_111 : decode method_5_code 111 = .ok (.invokespecial 15, 3) := by decide +kernel
theorem d2_114 : decode method_5_code 114 = .ok (.areturn, 1) := by decide +kernel
theorem d3_0 : decode jdk_42_method_3_code 0 = .ok (.aload_n 0, 1) := by decide +kernel
theorem d3_1 : decode jdk_42_method_3_code 1 = .ok (.aload_n 1, 1) := by decide +kernel
theorem d3_2 : decode jdk_42_method_3_code 2 = .ok (.iconst 0, 1) := by decide +kernel
theorem d3_3 : decode jdk_42_method_3_code 3 = .ok (.aload_n 1, 1) := by decide +kernel
theorem d3_4 : decode jdk_42_method_3_code 4 = .ok (.arraylength, 1) := by decide +kernel
theorem d3_5 : decode jdk_42_method_3_code 5 = .ok (.aconst_null, 1) := by decide +kernel
theorem d3_6 : decode jdk_42_method_3_code 6 = .ok (.invokespecial 27, 3) := by decide +kernel
theorem d3_9 : decode jdk_42_method_3_code 9 = .ok (.return_, 1) := by decide +kernel
theorem d4_0 : decode jdk_42_method_149_code 0 = .ok (.aload_n 0, 1) := by decide +kernel
theorem d4_1 : decode jdk_42_method_149_code 1 = .ok (.invokespecial 1, 3) := by decide +kernel
theorem d4_4 : decode jdk_42_method_149_code 4 = .ok (.iload_n 3, 1) := by decide +kernel
theorem d4_5 : decode jdk_42_method_149_code 5 = .ok (.ifCond .ne 22, 3) := by decide +kernel
theorem d4_8 : decode jdk_42_method_149_code 8 = .ok (.aload_n 0, 1) := by decide +kernel
theorem d4_9 : decode jdk_42_method_149_code 9 = .ok (.ldc 7, 2) := by decide +kernel
theorem d4_11 : decode jdk_42_method_149_code 11 = .ok (.getfield 9, 3) := by decide +kernel
theorem d4_14 : decode jdk_42_method_149_code 14 = .ok (.putfield 9, 3) := by decide +kernel
theorem d4_17 : decode jdk_42_method_149_code 17 = .ok (.aload_n 0, 1) := by decide +kernel
theorem d4_18 : decode jdk_42_method_149_code 18 = .ok (.ldc 7, 2) := by decide +kernel
theorem d4_20 : decode jdk_42_method_149_code 20 = .ok (.getfield 15, 3) := by decide +kernel
theorem d4_23 : decode jdk_42_method_149_code 23 = .ok (.putfield 15, 3) := by decide +kernel
theorem d4_26 : decode jdk_42_method_149_code 26 = .ok (.return_, 1) := by decide +kernel
theorem d6_0 : decode prog_7_method_5_code 0 = .ok (.aconst_null, 1) := by decide +kernel
theorem d6_1 : decode prog_7_method_5_code 1 = .ok (.astore_n 1, 1) := by decide +kernel
theorem d6_2 : decode prog_7_method_5_code 2 = .ok (.iconst 0, 1) := by decide +kernel
theorem d6_3 : decode prog_7_method_5_code 3 = .ok (.istore_n 2, 1) := by decide +kernel
theorem d6_4 : decode prog_7_method_5_code 4 = .ok (.iload_n 2, 1) := by decide +kernel
theorem d6_5 : decode prog_7_method_5_code 5 = .ok (.aload_n 0, 1) := by decide +kernel
theorem d6_6 : decode prog_7_method_5_code 6 = .ok (.invokevirtual 7, 3) := by decide +kernel
theorem d6_9 : decode prog_7_method_5_code 9 = .ok (.if_icmp .ge 67, 3) := by decide +kernel
theorem d6_12 : decode prog_7_method_5_code 12 = .ok (.aload_n 0, 1) := by decide +kernel
theorem d6_13 : decode prog_7_method_5_code 13 = .ok (.iload_n 2, 1) := by decide +kernel
theorem d6_14 : decode prog_7_method_5_code 14 = .ok (.invokevirtual 13, 3) := by decide +kernel
theorem d6_17 : decode prog_7_method_5_code 17 = .ok (.istore_n 3, 1) := by decide +kernel
theorem d6_18 : decode prog_7_method_5_code 18 = .ok (.iload_n 3, 1) := by decide +kernel
theorem d6_19 : decode prog_7_method_5_code 19 = .ok (.invokestatic 71, 3) := by decide +kernel
theorem d6_22 : decode prog_7_method_5_code 22 = .ok (.ifCond .eq 38, 3) := by decide +kernel
theorem d6_25 : decode prog_7_method_5_code 25 = .ok (.aload_n 1, 1) := by decide +kernel
theorem d6_26 : decode prog_7_method_5_code 26 = .ok (.ifnonnull 25, 3) := by decide +kernel
theorem d6_29 : decode prog_7_method_5_code 29 = .ok (.new 33, 3) := by decide +kernel
theorem d6_32 : decode prog_7_method_5_code 32 = .ok (.dup, 1) := by decide +kernel
theorem d6_33 : decode prog_7_method_5_code 33 = .ok (.aload_n 0, 1) := by decide +kernel
theorem d6_34 : decode prog_7_method_5_code 34 = .ok (.invokevirtual 7, 3) := by decide +kernel
theorem d6_37 : decode prog_7_method_5_code 37 = .ok (.iconst 1, 1) := by decide +kernel
theorem d6_38 : decode prog_7_method_5_code 38 = .ok (.iadd, 1) := by decide +kernel
theorem d6_39 : decode prog_7_method_5_code 39 = .ok (.invokespecial 35, 3) := by decide +kernel
theorem d6_42 : decode prog_7_method_5_code 42 = .ok (.aload_n 0, 1) := by decide +kernel
theorem d6_43 : decode prog_7_method_5_code 43 = .ok (.iconst 0, 1) := by decide +kernel
theorem d6_44 : decode prog_7_method_5_code 44 = .ok (.iload_n 2, 1) := by decide +kernel
theorem d6_45 : decode prog_7_method_5_code 45 = .ok (.invokevirtual 38, 3) := by decide +kernel
theorem d6_48 : decode prog_7_method_5_code 48 = .ok (.goto 4, 3) := by decide +kernel
theorem d6_51 : decode prog_7_method_5_code 51 = .ok (.aload_n 1, 1) := by decide +kernel
theorem d6_52 : decode prog_7_method_5_code 52 = .ok (.astore_n 1, 1) := by decide +kernel
theorem d6_53 : decode prog_7_method_5_code 53 = .ok (.aload_n 1, 1) := by decide +kernel
theorem d6_54 : decode prog_7_method_5_code 54 = .ok (.bipush 92, 2) := by decide +kernel
theorem d6_56 : decode prog_7_method_5_code 56 = .ok (.invokevirtual 61, 3) := by decide +kernel
theorem d6_59 : decode prog_7_method_5_code 59 = .ok (.pop, 1) := by decide +kernel
theorem d6_60 : decode prog_7_method_5_code 60 = .ok (.aload_n 1, 1) := by decide +kernel
theorem d6_61 : decode prog_7_method_5_code 61 = .ok (.ifnull 9, 3) := by decide +kernel
theorem d6_64 : decode prog_7_method_5_code 64 = .ok (.aload_n 1, 1) := by decide +kernel
theorem d6_65 : decode prog_7_method_5_code 65 = .ok (.iload_n 3, 1) := by decide +kernel
theorem d6_66 : decode prog_7_method_5_code 66 = .ok (.invokevirtual 61, 3) := by decide +kernel
theorem d6_69 : decode prog_7_method_5_code 69 = .ok (.pop, 1) := by decide +kernel
theorem d6_70 : decode prog_7_method_5_code 70 = .ok (.iinc 2 1, 3) := by decide +kernel
theorem d6_73 : decode prog_7_method_5_code 73 = .ok (.goto (-69), 3) := by decide +kernel
theorem d6_76 : decode prog_7_method_5_code 76 = .ok (.aload_n 1, 1) := by decide +kernel
theorem d6_77 : decode prog_7_method_5_code 77 = .ok (.ifnonnull 7, 3) := by decide +kernel
theorem d6_80 : decode prog_7_method_5_code 80 = .ok (.aload_n 0, 1) := by decide +kernel
theorem d6_81 : decode prog_7_method_5_code 81 = .ok (.goto 7, 3) := by decide +kernel
theorem d6_84 : decode prog_7_method_5_code 84 = .ok (.aload_n 1, 1) := by decide +kernel
theorem d6_85 : decode prog_7_method_5_code 85 = .ok (.invokevirtual 45, 3) := by decide +kernel
theorem d6_88 : decode prog_7_method_5_code 88 = .ok (.areturn, 1) := by decide +kernel
theorem d9_0 : decode method_6_code 0 = .ok (.iload_n 3, 1) := by decide +kernel
theorem d9_1 : decode method_6_code 1 = .ok (.iload_n 2, 1) := by decide +kernel
theorem d9_2 : decode method_6_code 2 = .ok (.if_icmp .ge 14, 3) := by decide +kernel
theorem d9_5 : decode method_6_code 5 = .ok (.aload_n 0, 1) := by decide +kernel
theorem d9_6 : decode method_6_code 6 = .ok (.iload_n 3, 1) := by decide +kernel
theorem d9_7 : decode method_6_code 7 = .ok (.invokevirtual 18, 3) := by decide +kernel
theorem d9_10 : decode method_6_code 10 = .ok (.aload_n 1, 1) := by decide +kernel
theorem d9_11 : decode method_6_code 11 = .ok (.iload_n 3, 1) := by decide +kernel
theorem d9_12 : decode method_6_code 12 = .ok (.caload, 1) := by decide +kernel
theorem d9_13 : decode method_6_code 13 = .ok (.if_icmp .ne 7, 3) := by decide +kernel
theorem d9_16 : decode method_6_code 16 = .ok (.iconst 1, 1) := by decide +kernel
theorem d9_17 : decode method_6_code 17 = .ok (.goto 4, 3) := by decide +kernel
theorem d9_21 : decode method_6_code 21 = .ok (.ireturn, 1) := by decide +kernel
theorem d13_0 : decode method_4_code 0 = .ok (.iload_n 1, 1) := by decide +kernel
theorem d13_1 : decode method_4_code 1 = .ok (.istore_n 3, 1) := by decide +kernel
theorem d13_2 : decode method_4_code 2 = .ok (.iload_n 2, 1) := by decide +kernel
theorem d13_3 : decode method_4_code 3 = .ok (.invokestatic 7, 3) := by decide +kernel
theorem d13_6 : decode method_4_code 6 = .ok (.ifCond .eq 12, 3) := by decide +kernel
theorem d13_9 : decode method_4_code 9 = .ok (.aload_n 0, 1) := by decide +kernel
theorem d13_10 : decode method_4_code 10 = .ok (.iload_n 3, 1) := by decide +kernel
theorem d13_11 : decode method_4_code 11 = .ok (.bipush 92, 2) := by decide +kernel
theorem d13_13 : decode method_4_code 13 = .ok (.castore, 1) := by decide +kernel
theorem d13_14 : decode method_4_code 14 = .ok (.iload_n 3, 1) := by decide +kernel
theorem d13_15 : decode method_4_code 15 = .ok (.iconst 1, 1) := by decide +kernel
theorem d13_16 : decode method_4_code 16 = .ok (.iadd, 1) := by decide +kernel
theorem d13_17 : decode method_4_code 17 = .ok (.istore_n 3, 1) := by decide +kernel
theorem d13_18 : decode method_4_code 18 = .ok (.aload_n 0, 1) := by decide +kernel
theorem d13_19 : decode method_4_code 19 = .ok (.iload_n 3, 1) := by decide +kernel
theorem d13_20 : decode method_4_code 20 = .ok (.iload_n 2, 1) := by decide +kernel
theorem d13_21 : decode method_4_code 21 = .ok (.castore, 1) := by decide +kernel
theorem d13_22 : decode method_4_code 22 = .ok (.iload_n 3, 1) := by decide +kernel
theorem d13_23 : decode method_4_code 23 = .ok (.iconst 1, 1) := by decide +kernel
theorem d13_24 : decode method_4_code 24 = .ok (.iadd, 1) := by decide +kernel
theorem d13_25 : decode method_4_code 25 = .ok (.ireturn, 1) := by decide +kernel
theorem d14_0 : decode method_3_code 0 = .ok (.iload_n 0, 1) := by decide +kernel
theorem d14_1 : decode method_3_code 1 = .ok (.bipush 123, 2) := by decide +kernel
theorem d14_3 : decode method_3_code 3 = .ok (.if_icmp .eq 21, 3) := by decide +kernel
theorem d14_6 : decode method_3_code 6 = .ok (.iload_n 0, 1) := by decide +kernel
theorem d14_7 : decode method_3_code 7 = .ok (.bipush 125, 2) := by decide +kernel
theorem d14_9 : decode method_3_code 9 = .ok (.if_icmp .eq 15, 3) := by decide +kernel
theorem d14_12 : decode method_3_code 12 = .ok (.iload_n 0, 1) := by decide +kernel
theorem d14_13 : decode method_3_code 13 = .ok (.bipush 36, 2) := by decide +kernel
theorem d14_15 : decode method_3_code 15 = .ok (.if_icmp .eq 9, 3) := by decide +kernel
theorem d14_18 : decode method_3_code 18 = .ok (.iload_n 0, 1) := by decide +kernel
theorem d14_19 : decode method_3_code 19 = .ok (.bipush 92, 2) := by decide +kernel
theorem d14_21 : decode method_3_code 21 = .ok (.if_icmp .ne 7, 3) := by decide +kernel
theorem d14_24 : decode method_3_code 24 = .ok (.iconst 1, 1) := by decide +kernel
theorem d14_25 : decode method_3_code 25 = .ok (.goto 4, 3) := by decide +kernel
theorem d14_28 : decode method_3_code 28 = .ok (.iconst 0, 1) := by decide +kernel
theorem d14_29 : decode method_3_code 29 = .ok (.ireturn, 1) := by decide +kernel
theorem d16_0 : decode jdk_42_method_154_code 0 = .ok (.getstatic 38, 3) := by decide +kernel
theorem d16_3 : decode jdk_42_method_154_code 3 = .ok (.ifCond .eq 14, 3) := by decide +kernel
theorem d16_6 : decode jdk_42_method_154_code 6 = .ok (.aload_n 0, 1) := by decide +kernel
theorem d16_7 : decode jdk_42_method_154_code 7 = .ok (.getfield 15, 3) := by decide +kernel
theorem d16_10 : decode jdk_42_method_154_code 10 = .ok (.ifCond .ne 7, 3) := by decide +kernel
theorem d16_13 : decode jdk_42_method_154_code 13 = .ok (.iconst 1, 1) := by decide +kernel
theorem d16_14 : decode jdk_42_method_154_code 14 = .ok (.goto 4, 3) := by decide +kernel
theorem d16_18 : decode jdk_42_method_154_code 18 = .ok (.ireturn, 1) := by decide +kernel
theorem d20_0 : decode prog_7_method_9_code 0 = .ok (.iload_n 0, 1) := by decide +kernel
theorem d20_1 : decode prog_7_method_9_code 1 = .ok (.bipush 123, 2) := by decide +kernel
theorem d20_3 : decode prog_7_method_9_code 3 = .ok (.if_icmp .eq 21, 3) := by decide +kernel
theorem d20_6 : decode prog_7_method_9_code 6 = .ok (.iload_n 0, 1) := by decide +kernel
theorem d20_7 : decode prog_7_method_9_code 7 = .ok (.bipush 125, 2) := by decide +kernel
theorem d20_9 : decode prog_7_method_9_code 9 = .ok (.if_icmp .eq 15, 3) := by decide +kernel
theorem d20_12 : decode prog_7_method_9_code 12 = .ok (.iload_n 0, 1) := by decide +kernel
theorem d20_13 : decode prog_7_method_9_code 13 = .ok (.bipush 36, 2) := by decide +kernel
theorem d20_15 : decode prog_7_method_9_code 15 = .ok (.if_icmp .eq 9, 3) := by decide +kernel
theorem d20_18 : decode prog_7_method_9_code 18 = .ok (.iload_n 0, 1) := by decide +kernel
theorem d20_19 : decode prog_7_method_9_code 19 = .ok (.bipush 92, 2) := by decide +kernel
theorem d20_21 : decode prog_7_method_9_code 21 = .ok (.if_icmp .ne 7, 3) := by decide +kernel
theorem d20_24 : decode prog_7_method_9_code 24 = .ok (.iconst 1, 1) := by decide +kernel
theorem d20_25 : decode prog_7_method_9_code 25 = .ok (.goto 4, 3) := by decide +kernel
theorem d20_28 : decode prog_7_method_9_code 28 = .ok (.iconst 0, 1) := by decide +kernel
theorem d20_29 : decode prog_7_method_9_code 29 = .ok (.ireturn, 1) := by decide +kernel
theorem d21_0 : decode jdk_67_method_2_code 0 = .ok (.aload_n 0, 1) := by decide +kernel
theorem d21_1 : decode jdk_67_method_2_code 1 = .ok (.iload_n 1, 1) := by decide +kernel
theorem d21_2 : decode jdk_67_method_2_code 2 = .ok (.invokespecial 1, 3) := by decide +kernel
theorem d21_5 : decode jdk_67_method_2_code 5 = .ok (.return_, 1) := by decide +kernel
theorem d22_0 : decode jdk_68_method_2_code 0 = .ok (.aload_n 0, 1) := by decide +kernel
theorem d22_1 : decode jdk_68_method_2_code 1 = .ok (.invokespecial 3, 3) := by decide +kernel
theorem d22_4 : decode jdk_68_method_2_code 4 = .ok (.getstatic 18, 3) := by decide +kernel
theorem d22_7 : decode jdk_68_method_2_code 7 = .ok (.ifCond .eq 18, 3) := by decide +kernel
theorem d22_10 : decode jdk_68_method_2_code 10 = .ok (.aload_n 0, 1) := by decide +kernel
theorem d22_11 : decode jdk_68_method_2_code 11 = .ok (.iload_n 1, 1) := by decide +kernel
theorem d22_12 : decode jdk_68_method_2_code 12 = .ok (.newarray .byte, 2) := by decide +kernel
theorem d22_14 : decode jdk_68_method_2_code 14 = .ok (.putfield 15, 3) := by decide +kernel
theorem d22_17 : decode jdk_68_method_2_code 17 = .ok (.aload_n 0, 1) := by decide +kernel
theorem d22_18 : decode jdk_68_method_2_code 18 = .ok (.iconst 0, 1) := by decide +kernel
theorem d22_19 : decode jdk_68_method_2_code 19 = .ok (.putfield 22, 3) := by decide +kernel
theorem d22_22 : decode jdk_68_method_2_code 22 = .ok (.goto 16, 3) := by decide +kernel
theorem d22_38 : decode jdk_68_method_2_code 38 = .ok (.return_, 1) := by decide +kernel
theorem d23_0 : decode jdk_67_method_10_code 0 = .ok (.aload_n 0, 1) := by decide +kernel
theorem d23_1 : decode jdk_67_method_10_code 1 = .ok (.aload_n 1, 1) := by decide +kernel
theorem d23_2 : decode jdk_67_method_10_code 2 = .ok (.iload_n 2, 1) := by decide +kernel
theorem d23_3 : decode jdk_67_method_10_code 3 = .ok (.iload_n 3, 1) := by decide +kernel
theorem d23_4 : decode jdk_67_method_10_code 4 = .ok (.invokespecial 38, 3) := by decide +kernel
theorem d23_7 : decode jdk_67_method_10_code 7 = .ok (.pop, 1) := by decide +kernel
theorem d23_8 : decode jdk_67_method_10_code 8 = .ok (.aload_n 0, 1) := by decide +kernel
theorem d23_9 : decode jdk_67_method_10_code 9 = .ok (.areturn, 1) := by decide +kernel
theorem d24_0 : decode jdk_68_method_27_code 0 = .ok (.aload_n 1, 1) := by decide +kernel
theorem d24_1 : decode jdk_68_method_27_code 1 = .ok (.ifnonnull 6, 3) := by decide +kernel
theorem d24_7 : decode jdk_68_method_27_code 7 = .ok (.iload_n 2, 1) := by decide +kernel
theorem d24_8 : decode jdk_68_method_27_code 8 = .ok (.iload_n 3, 1) := by decide +kernel
theorem d24_9 : decode jdk_68_method_27_code 9 = .ok (.aload_n 1, 1) := by decide +kernel
theorem d24_10 : decode jdk_68_method_27_code 10 = .ok (.invokeinterface 47 1, 5) := by decide +kernel
theorem d24_15 : decode jdk_68_method_27_code 15 = .ok (.getstatic 183, 3) := by decide +kernel
theorem d24_18 : decode jdk_68_method_27_code 18 = .ok (.invokestatic 161, 3) := by decide +kernel
theorem d24_21 : decode jdk_68_method_27_code 21 = .ok (.pop, 1) := by decide +kernel
theorem d24_22 : decode jdk_68_method_27_code 22 = .ok (.iload_n 3, 1) := by decide +kernel
theorem d24_23 : decode jdk_68_method_27_code 23 = .ok (.iload_n 2, 1) := by decide +kernel
theorem d24_24 : decode jdk_68_method_27_code 24 = .ok (.isub, 1) := by decide +kernel
theorem d24_25 : decode jdk_68_method_27_code 25 = .ok (.istore 4, 2) := by decide +kernel
theorem d24_27 : decode jdk_68_method_27_code 27 = .ok (.aload_n 0, 1) := by decide +kernel
theorem d24_28 : decode jdk_68_method_27_code 28 = .ok (.aload_n 0, 1) := by decide +kernel
theorem d24_29 : decode jdk_68_method_27_code 29 = .ok (.getfield 79, 3) := by decide +kernel
theorem d24_32 : decode jdk_68_method_27_code 32 = .ok (.iload 4, 2) := by decide +kernel
theorem d24_34 : decode jdk_68_method_27_code 34 = .ok (.iadd, 1) := by decide +kernel
theorem d24_35 : decode jdk_68_method_27_code 35 = .ok (.invokevirtual 100, 3) := by decide +kernel
theorem d24_38 : decode jdk_68_method_27_code 38 = .ok (.aload_n 1, 1) := by decide +kernel
theorem d24_39 : decode jdk_68_method_27_code 39 = .ok (.instanceof 1, 3) := by decide +kernel
theorem d24_42 : decode jdk_68_method_27_code 42 = .ok (.ifCond .eq 16, 3) := by decide +kernel
theorem d24_45 : decode jdk_68_method_27_code 45 = .ok (.aload_n 0, 1) := by decide +kernel
theorem d24_46 : decode jdk_68_method_27_code 46 = .ok (.aload_n 1, 1) := by decide +kernel
theorem d24_47 : decode jdk_68_method_27_code 47 = .ok (.checkcast 1, 3) := by decide +kernel
theorem d24_50 : decode jdk_68_method_27_code 50 = .ok (.iload_n 2, 1) := by decide +kernel
theorem d24_51 : decode jdk_68_method_27_code 51 = .ok (.iload_n 3, 1) := by decide +kernel
theorem d24_52 : decode jdk_68_method_27_code 52 = .ok (.invokevirtual 232, 3) := by decide +kernel
theorem d24_55 : decode jdk_68_method_27_code 55 = .ok (.goto 10, 3) := by decide +kernel
theorem d24_65 : decode jdk_68_method_27_code 65 = .ok (.aload_n 0, 1) := by decide +kernel
theorem d24_66 : decode jdk_68_method_27_code 66 = .ok (.areturn, 1) := by decide +kernel
theorem d25_0 : decode jdk_41_method_12_code 0 = .ok (.iload_n 0, 1) := by decide +kernel
theorem d25_1 : decode jdk_41_method_12_code 1 = .ok (.ifCond .lt 13, 3) := by decide +kernel
theorem d25_4 : decode jdk_41_method_12_code 4 = .ok (.iload_n 0, 1) := by decide +kernel
theorem d25_5 : decode jdk_41_method_12_code 5 = .ok (.iload_n 1, 1) := by decide +kernel
theorem d25_6 : decode jdk_41_method_12_code 6 = .ok (.if_icmp .gt 8, 3) := by decide +kernel
theorem d25_9 : decode jdk_41_method_12_code 9 = .ok (.iload_n 1, 1) := by decide +kernel
theorem d25_10 : decode jdk_41_method_12_code 10 = .ok (.iload_n 2, 1) := by decide +kernel
theorem d25_11 : decode jdk_41_method_12_code 11 = .ok (.if_icmp .le 11, 3) := by decide +kernel
theorem d25_22 : decode jdk_41_method_12_code 22 = .ok (.iload_n 0, 1) := by decide +kernel
theorem d25_23 : decode jdk_41_method_12_code 23 = .ok (.ireturn, 1) := by decide +kernel
theorem d26_0 : decode jdk_68_method_9_code 0 = .ok (.aload_n 0, 1) := by decide +kernel
theorem d26_1 : decode jdk_68_method_9_code 1 = .ok (.getfield 15, 3) := by decide +kernel
theorem d26_4 : decode jdk_68_method_9_code 4 = .ok (.arraylength, 1) := by decide +kernel
theorem d26_5 : decode jdk_68_method_9_code 5 = .ok (.aload_n 0, 1) := by decide +kernel
theorem d26_6 : decode jdk_68_method_9_code 6 = .ok (.getfield 22, 3) := by decide +kernel
theorem d26_9 : decode jdk_68_method_9_code 9 = .ok (.ishr, 1) := by decide +kernel
theorem d26_10 : decode jdk_68_method_9_code 10 = .ok (.istore_n 2, 1) := by decide +kernel
theorem d26_11 : decode jdk_68_method_9_code 11 = .ok (.iload_n 1, 1) := by decide +kernel
theorem d26_12 : decode jdk_68_method_9_code 12 = .ok (.iload_n 2, 1) := by decide +kernel
theorem d26_13 : decode jdk_68_method_9_code 13 = .ok (.isub, 1) := by decide +kernel
theorem d26_14 : decode jdk_68_method_9_code 14 = .ok (.ifCond .le 24, 3) := by decide +kernel
theorem d26_17 : decode jdk_68_method_9_code 17 = .ok (.aload_n 0, 1) := by decide +kernel
theorem d26_18 : decode jdk_68_method_9_code 18 = .ok (.aload_n 0, 1) := by decide +kernel
theorem d26_19 : decode jdk_68_method_9_code 19 = .ok (.getfield 15, 3) := by decide +kernel
theorem d26_22 : decode jdk_68_method_9_code 22 = .ok (.aload_n 0, 1) := by decide +kernel
theorem d26_23 : decode jdk_68_method_9_code 23 = .ok (.iload_n 1, 1) := by decide +kernel
theorem d26_24 : decode jdk_68_method_9_code 24 = .ok (.invokevirtual 104, 3) := by decide +kernel
theorem d26_27 : decode jdk_68_method_9_code 27 = .ok (.aload_n 0, 1) := by decide +kernel
theorem d26_28 : decode jdk_68_method_9_code 28 = .ok (.getfield 22, 3) := by decide +kernel
theorem d26_31 : decode jdk_68_method_9_code 31 = .ok (.ishl, 1) := by decide +kernel
theorem d26_32 : decode jdk_68_method_9_code 32 = .ok (.invokestatic 108, 3) := by decide +kernel
theorem d26_35 : decode jdk_68_method_9_code 35 = .ok (.putfield 15, 3) := by decide +kernel
theorem d26_38 : decode jdk_68_method_9_code 38 = .ok (.return_, 1) := by decide +kernel
theorem d27_0 : decode jdk_68_method_75_code 0 = .ok (.aload_n 0, 1) := by decide +kernel
theorem d27_1 : decode jdk_68_method_75_code 1 = .ok (.invokevirtual 83, 3) := by decide +kernel
theorem d27_4 : decode jdk_68_method_75_code 4 = .ok (.ifCond .eq 141, 3) := by decide +kernel
theorem d27_7 : decode jdk_68_method_75_code 7 = .ok (.aload_n 1, 1) := by decide +kernel
theorem d27_8 : decode jdk_68_method_75_code 8 = .ok (.invokevirtual 400, 3) := by decide +kernel
theorem d27_11 : decode jdk_68_method_75_code 11 = .ok (.ifCond .eq 25, 3) := by decide +kernel
theorem d27_14 : decode jdk_68_method_75_code 14 = .ok (.aload_n 1, 1) := by decide +kernel
theorem d27_15 : decode jdk_68_method_75_code 15 = .ok (.invokevirtual 401, 3) := by decide +kernel
theorem d27_18 : decode jdk_68_method_75_code 18 = .ok (.iload_n 2, 1) := by decide +kernel
theorem d27_19 : decode jdk_68_method_75_code 19 = .ok (.aload_n 0, 1) := by decide +kernel
theorem d27_20 : decode jdk_68_method_75_code 20 = .ok (.getfield 15, 3) := by decide +kernel
theorem d27_23 : decode jdk_68_method_75_code 23 = .ok (.aload_n 0, 1) := by decide +kernel
theorem d27_24 : decode jdk_68_method_75_code 24 = .ok (.getfield 79, 3) := by decide +kernel
theorem d27_27 : decode jdk_68_method_75_code 27 = .ok (.iload_n 3, 1) := by decide +kernel
theorem d27_28 : decode jdk_68_method_75_code 28 = .ok (.iload_n 2, 1) := by decide +kernel
theorem d27_29 : decode jdk_68_method_75_code 29 = .ok (.isub, 1) := by decide +kernel
theorem d27_30 : decode jdk_68_method_75_code 30 = .ok (.invokestatic 309, 3) := by decide +kernel
theorem d27_33 : decode jdk_68_method_75_code 33 = .ok (.goto 161, 3) := by decide +kernel
theorem d27_194 : decode jdk_68_method_75_code 194 = .ok (.aload_n 0, 1) := by decide +kernel
theorem d27_195 : decode jdk_68_method_75_code 195 = .ok (.dup, 1) := by decide +kernel
theorem d27_196 : decode jdk_68_method_75_code 196 = .ok (.getfield 79, 3) := by decide +kernel
theorem d27_199 : decode jdk_68_method_75_code 199 = .ok (.iload_n 3, 1) := by decide +kernel
theorem d27_200 : decode jdk_68_method_75_code 200 = .ok (.iload_n 2, 1) := by decide +kernel
theorem d27_201 : decode jdk_68_method_75_code 201 = .ok (.isub, 1) := by decide +kernel
theorem d27_202 : decode jdk_68_method_75_code 202 = .ok (.iadd, 1) := by decide +kernel
theorem d27_203 : decode jdk_68_method_75_code 203 = .ok (.putfield 79, 3) := by decide +kernel
theorem d27_206 : decode jdk_68_method_75_code 206 = .ok (.return_, 1) := by decide +kernel
theorem d28_0 : decode jdk_68_method_68_code 0 = .ok (.getstatic 18, 3) := by decide +kernel
theorem d28_3 : decode jdk_68_method_68_code 3 = .ok (.ifCond .eq 14, 3) := by decide +kernel
theorem d28_6 : decode jdk_68_method_68_code 6 = .ok (.aload_n 0, 1) := by decide +kernel
theorem d28_7 : decode jdk_68_method_68_code 7 = .ok (.getfield 22, 3) := by decide +kernel
theorem d28_10 : decode jdk_68_method_68_code 10 = .ok (.ifCond .ne 7, 3) := by decide +kernel
theorem d28_13 : decode jdk_68_method_68_code 13 = .ok (.iconst 1, 1) := by decide +kernel
theorem d28_14 : decode jdk_68_method_68_code 14 = .ok (.goto 4, 3) := by decide +kernel
theorem d28_18 : decode jdk_68_method_68_code 18 = .ok (.ireturn, 1) := by decide +kernel
theorem d29_0 : decode jdk_42_method_153_code 0 = .ok (.aload_n 0, 1) := by decide +kernel
theorem d29_1 : decode jdk_42_method_153_code 1 = .ok (.getfield 9, 3) := by decide +kernel
theorem d29_4 : decode jdk_42_method_153_code 4 = .ok (.areturn, 1) := by decide +kernel
theorem d30_0 : decode jdk_67_method_14_code 0 = .ok (.aload_n 0, 1) := by decide +kernel
theorem d30_1 : decode jdk_67_method_14_code 1 = .ok (.iload_n 1, 1) := by decide +kernel
theorem d30_2 : decode jdk_67_method_14_code 2 = .ok (.invokespecial 50, 3) := by decide +kernel
theorem d30_5 : decode jdk_67_method_14_code 5 = .ok (.pop, 1) := by decide +kernel
theorem d30_6 : decode jdk_67_method_14_code 6 = .ok (.aload_n 0, 1) := by decide +kernel
theorem d30_7 : decode jdk_67_method_14_code 7 = .ok (.areturn, 1) := by decide +kernel
theorem d31_0 : decode jdk_68_method_31_code 0 = .ok (.aload_n 0, 1) := by decide +kernel
theorem d31_1 : decode jdk_68_method_31_code 1 = .ok (.aload_n 0, 1) := by decide +kernel
theorem d31_2 : decode jdk_68_method_31_code 2 = .ok (.getfield 79, 3) := by decide +kernel
theorem d31_5 : decode jdk_68_method_31_code 5 = .ok (.iconst 1, 1) := by decide +kernel
theorem d31_6 : decode jdk_68_method_31_code 6 = .ok (.iadd, 1) := by decide +kernel
theorem d31_7 : decode jdk_68_method_31_code 7 = .ok (.invokevirtual 100, 3) := by decide +kernel
theorem d31_10 : decode jdk_68_method_31_code 10 = .ok (.aload_n 0, 1) := by decide +kernel
theorem d31_11 : decode jdk_68_method_31_code 11 = .ok (.invokevirtual 83, 3) := by decide +kernel
theorem d31_14 : decode jdk_68_method_31_code 14 = .ok (.ifCond .eq 31, 3) := by decide +kernel
theorem d31_17 : decode jdk_68_method_31_code 17 = .ok (.iload_n 1, 1) := by decide +kernel
theorem d31_18 : decode jdk_68_method_31_code 18 = .ok (.invokestatic 191, 3) := by decide +kernel
theorem d31_21 : decode jdk_68_method_31_code 21 = .ok (.ifCond .eq 24, 3) := by decide +kernel
theorem d31_24 : decode jdk_68_method_31_code 24 = .ok (.aload_n 0, 1) := by decide +kernel
theorem d31_25 : decode jdk_68_method_31_code 25 = .ok (.getfield 15, 3) := by decide +kernel
theorem d31_28 : decode jdk_68_method_31_code 28 = .ok (.aload_n 0, 1) := by decide +kernel
theorem d31_29 : decode jdk_68_method_31_code 29 = .ok (.dup, 1) := by decide +kernel
theorem d31_30 : decode jdk_68_method_31_code 30 = .ok (.getfield 79, 3) := by decide +kernel
theorem d31_33 : decode jdk_68_method_31_code 33 = .ok (.dup_x1, 1) := by decide +kernel
theorem d31_34 : decode jdk_68_method_31_code 34 = .ok (.iconst 1, 1) := by decide +kernel
theorem d31_35 : decode jdk_68_method_31_code 35 = .ok (.iadd, 1) := by decide +kernel
theorem d31_36 : decode jdk_68_method_31_code 36 = .ok (.putfield 79, 3) := by decide +kernel
theorem d31_39 : decode jdk_68_method_31_code 39 = .ok (.iload_n 1, 1) := by decide +kernel
theorem d31_40 : decode jdk_68_method_31_code 40 = .ok (.i2b, 1) := by decide +kernel
theorem d31_41 : decode jdk_68_method_31_code 41 = .ok (.bastore, 1) := by decide +kernel
theorem d31_42 : decode jdk_68_method_31_code 42 = .ok (.goto 33, 3) := by decide +kernel
theorem d31_75 : decode jdk_68_method_31_code 75 = .ok (.aload_n 0, 1) := by decide +kernel
theorem d31_76 : decode jdk_68_method_31_code 76 = .ok (.areturn, 1) := by decide +kernel
theorem d32_0 : decode jdk_43_method_3_code 0 = .ok (.iload_n 0, 1) := by decide +kernel
theorem d32_1 : decode jdk_43_method_3_code 1 = .ok (.sipush 255, 3) := by decide +kernel
theorem d32_4 : decode jdk_43_method_3_code 4 = .ok (.if_icmp .gt 7, 3) := by decide +kernel
theorem d32_7 : decode jdk_43_method_3_code 7 = .ok (.iconst 1, 1) := by decide +kernel
theorem d32_8 : decode jdk_43_method_3_code 8 = .ok (.goto 4, 3) := by decide +kernel
theorem d32_12 : decode jdk_43_method_3_code 12 = .ok (.ireturn, 1) := by decide +kernel
theorem d33_0 : decode jdk_67_method_42_code 0 = .ok (.new 18, 3) := by decide +kernel
theorem d33_3 : decode jdk_67_method_42_code 3 = .ok (.dup, 1) := by decide +kernel
theorem d33_4 : decode jdk_67_method_42_code 4 = .ok (.aload_n 0, 1) := by decide +kernel
theorem d33_5 : decode jdk_67_method_42_code 5 = .ok (.invokespecial 137, 3) := by decide +kernel
theorem d33_8 : decode jdk_67_method_42_code 8 = .ok (.areturn, 1) := by decide +kernel
theorem d34_0 : decode jdk_42_method_53_code 0 = .ok (.aload_n 0, 1) := by decide +kernel
theorem d34_1 : decode jdk_42_method_53_code 1 = .ok (.aload_n 1, 1) := by decide +kernel
theorem d34_2 : decode jdk_42_method_53_code 2 = .ok (.aconst_null, 1) := by decide +kernel
theorem d34_3 : decode jdk_42_method_53_code 3 = .ok (.invokespecial 489, 3) := by decide +kernel
theorem d34_6 : decode jdk_42_method_53_code 6 = .ok (.return_, 1) := by decide +kernel
theorem d35_0 : decode jdk_42_method_150_code 0 = .ok (.aload_n 0, 1) := by decide +kernel
theorem d35_1 : decode jdk_42_method_150_code 1 = .ok (.invokespecial 1, 3) := by decide +kernel
theorem d35_4 : decode jdk_42_method_150_code 4 = .ok (.aload_n 1, 1) := by decide +kernel
theorem d35_5 : decode jdk_42_method_150_code 5 = .ok (.invokevirtual 552, 3) := by decide +kernel
theorem d35_8 : decode jdk_42_method_150_code 8 = .ok (.astore_n 3, 1) := by decide +kernel
theorem d35_9 : decode jdk_42_method_150_code 9 = .ok (.aload_n 1, 1) := by decide +kernel
theorem d35_10 : decode jdk_42_method_150_code 10 = .ok (.invokevirtual 549, 3) := by decide +kernel
theorem d35_13 : decode jdk_42_method_150_code 13 = .ok (.istore 4, 2) := by decide +kernel
theorem d35_15 : decode jdk_42_method_150_code 15 = .ok (.aload_n 1, 1) := by decide +kernel
theorem d35_16 : decode jdk_42_method_150_code 16 = .ok (.invokevirtual 1047, 3) := by decide +kernel
theorem d35_19 : decode jdk_42_method_150_code 19 = .ok (.ifCond .eq 22, 3) := by decide +kernel
theorem d35_22 : decode jdk_42_method_150_code 22 = .ok (.aload_n 0, 1) := by decide +kernel
theorem d35_23 : decode jdk_42_method_150_code 23 = .ok (.iconst 0, 1) := by decide +kernel
theorem d35_24 : decode jdk_42_method_150_code 24 = .ok (.putfield 15, 3) := by decide +kernel
theorem d35_27 : decode jdk_42_method_150_code 27 = .ok (.aload_n 0, 1) := by decide +kernel
theorem d35_28 : decode jdk_42_method_150_code 28 = .ok (.aload_n 3, 1) := by decide +kernel
theorem d35_29 : decode jdk_42_method_150_code 29 = .ok (.iconst 0, 1) := by decide +kernel
theorem d35_30 : decode jdk_42_method_150_code 30 = .ok (.iload 4, 2) := by decide +kernel
theorem d35_32 : decode jdk_42_method_150_code 32 = .ok (.invokestatic 54, 3) := by decide +kernel
theorem d35_35 : decode jdk_42_method_150_code 35 = .ok (.putfield 9, 3) := by decide +kernel
theorem d35_38 : decode jdk_42_method_150_code 38 = .ok (.goto 59, 3) := by decide +kernel
theorem d35_97 : decode jdk_42_method_150_code 97 = .ok (.return_, 1) := by decide +kernel
theorem d36_0 : decode jdk_68_method_64_code 0 = .ok (.aload_n 0, 1) := by decide +kernel
theorem d36_1 : decode jdk_68_method_64_code 1 = .ok (.getfield 15, 3) := by decide +kernel
theorem d36_4 : decode jdk_68_method_64_code 4 = .ok (.areturn, 1) := by decide +kernel
theorem d37_0 : decode jdk_67_method_93_code 0 = .ok (.aload_n 0, 1) := by decide +kernel
theorem d37_1 : decode jdk_67_method_93_code 1 = .ok (.invokespecial 343, 3) := by decide +kernel
theorem d37_4 : decode jdk_67_method_93_code 4 = .ok (.ireturn, 1) := by decide +kernel
theorem d38_0 : decode jdk_68_method_6_code 0 = .ok (.aload_n 0, 1) := by decide +kernel
theorem d38_1 : decode jdk_68_method_6_code 1 = .ok (.getfield 79, 3) := by decide +kernel
theorem d38_4 : decode jdk_68_method_6_code 4 = .ok (.ireturn, 1) := by decide +kernel
theorem d39_0 : decode jdk_65_method_132_code 0 = .ok (.iload_n 1, 1) := by decide +kernel
theorem d39_1 : decode jdk_65_method_132_code 1 = .ok (.ifCond .ne 9, 3) := by decide +kernel
theorem d39_4 : decode jdk_65_method_132_code 4 = .ok (.iload_n 2, 1) := by decide +kernel
theorem d39_5 : decode jdk_65_method_132_code 5 = .ok (.aload_n 0, 1) := by decide +kernel
theorem d39_6 : decode jdk_65_method_132_code 6 = .ok (.arraylength, 1) := by decide +kernel
theorem d39_7 : decode jdk_65_method_132_code 7 = .ok (.if_icmp .eq 10, 3) := by decide +kernel
theorem d39_10 : decode jdk_65_method_132_code 10 = .ok (.aload_n 0, 1) := by decide +kernel
theorem d39_11 : decode jdk_65_method_132_code 11 = .ok (.iload_n 1, 1) := by decide +kernel
theorem d39_12 : decode jdk_65_method_132_code 12 = .ok (.iload_n 2, 1) := by decide +kernel
theorem d39_13 : decode jdk_65_method_132_code 13 = .ok (.invokestatic 339, 3) := by decide +kernel
theorem d39_16 : decode jdk_65_method_132_code 16 = .ok (.areturn, 1) := by decide +kernel
theorem d39_17 : decode jdk_65_method_132_code 17 = .ok (.aload_n 0, 1) := by decide +kernel
theorem d39_18 : decode jdk_65_method_132_code 18 = .ok (.invokevirtual 310, 3) := by decide +kernel
theorem d39_21 : decode jdk_65_method_132_code 21 = .ok (.checkcast 311, 3) := by decide +kernel
theorem d39_24 : decode jdk_65_method_132_code 24 = .ok (.areturn, 1) := by decide +kernel
theorem d40_0 : decode jdk_68_method_10_code 0 = .ok (.aload_n 0, 1) := by decide +kernel
theorem d40_1 : decode jdk_68_method_10_code 1 = .ok (.getfield 15, 3) := by decide +kernel
theorem d40_4 : decode jdk_68_method_10_code 4 = .ok (.arraylength, 1) := by decide +kernel
theorem d40_5 : decode jdk_68_method_10_code 5 = .ok (.istore_n 2, 1) := by decide +kernel
theorem d40_6 : decode jdk_68_method_10_code 6 = .ok (.iload_n 1, 1) := by decide +kernel
theorem d40_7 : decode jdk_68_method_10_code 7 = .ok (.aload_n 0, 1) := by decide +kernel
theorem d40_8 : decode jdk_68_method_10_code 8 = .ok (.getfield 22, 3) := by decide +kernel
theorem d40_11 : decode jdk_68_method_10_code 11 = .ok (.ishl, 1) := by decide +kernel
theorem d40_12 : decode jdk_68_method_10_code 12 = .ok (.istore_n 3, 1) := by decide +kernel
theorem d40_13 : decode jdk_68_method_10_code 13 = .ok (.iload_n 3, 1) := by decide +kernel
theorem d40_14 : decode jdk_68_method_10_code 14 = .ok (.iload_n 2, 1) := by decide +kernel
theorem d40_15 : decode jdk_68_method_10_code 15 = .ok (.isub, 1) := by decide +kernel
theorem d40_16 : decode jdk_68_method_10_code 16 = .ok (.istore 4, 2) := by decide +kernel
theorem d40_18 : decode jdk_68_method_10_code 18 = .ok (.iload_n 2, 1) := by decide +kernel
theorem d40_19 : decode jdk_68_method_10_code 19 = .ok (.iload 4, 2) := by decide +kernel
theorem d40_21 : decode jdk_68_method_10_code 21 = .ok (.iload_n 2, 1) := by decide +kernel
theorem d40_22 : decode jdk_68_method_10_code 22 = .ok (.iconst 2, 1) := by decide +kernel
theorem d40_23 : decode jdk_68_method_10_code 23 = .ok (.aload_n 0, 1) := by decide +kernel
theorem d40_24 : decode jdk_68_method_10_code 24 = .ok (.getfield 22, 3) := by decide +kernel
theorem d40_27 : decode jdk_68_method_10_code 27 = .ok (.ishl, 1) := by decide +kernel
theorem d40_28 : decode jdk_68_method_10_code 28 = .ok (.iadd, 1) := by decide +kernel
theorem d40_29 : decode jdk_68_method_10_code 29 = .ok (.invokestatic 114, 3) := by decide +kernel
theorem d40_32 : decode jdk_68_method_10_code 32 = .ok (.istore 5, 2) := by decide +kernel
theorem d40_34 : decode jdk_68_method_10_code 34 = .ok (.iload 5, 2) := by decide +kernel
theorem d40_36 : decode jdk_68_method_10_code 36 = .ok (.ldc 39, 2) := by decide +kernel
theorem d40_38 : decode jdk_68_method_10_code 38 = .ok (.if_icmp .ne 13, 3) := by decide +kernel
theorem d40_51 : decode jdk_68_method_10_code 51 = .ok (.iload 5, 2) := by decide +kernel
theorem d40_53 : decode jdk_68_method_10_code 53 = .ok (.aload_n 0, 1) := by decide +kernel
theorem d40_54 : decode jdk_68_method_10_code 54 = .ok (.getfield 22, 3) := by decide +kernel
theorem d40_57 : decode jdk_68_method_10_code 57 = .ok (.ishr, 1) := by decide +kernel
theorem d40_58 : decode jdk_68_method_10_code 58 = .ok (.ireturn, 1) := by decide +kernel
theorem d41_0 : decode jdk_48_method_27_code 0 = .ok (.iload_n 0, 1) := by decide +kernel
theorem d41_1 : decode jdk_48_method_27_code 1 = .ok (.iload_n 1, 1) := by decide +kernel
theorem d41_2 : decode jdk_48_method_27_code 2 = .ok (.iload_n 2, 1) := by decide +kernel
theorem d41_3 : decode jdk_48_method_27_code 3 = .ok (.invokestatic 194, 3) := by decide +kernel
theorem d41_6 : decode jdk_48_method_27_code 6 = .ok (.iadd, 1) := by decide +kernel
theorem d41_7 : decode jdk_48_method_27_code 7 = .ok (.istore_n 3, 1) := by decide +kernel
theorem d41_8 : decode jdk_48_method_27_code 8 = .ok (.iconst 0, 1) := by decide +kernel
theorem d41_9 : decode jdk_48_method_27_code 9 = .ok (.iload_n 3, 1) := by decide +kernel
theorem d41_10 : decode jdk_48_method_27_code 10 = .ok (.if_icmp .ge 11, 3) := by decide +kernel
theorem d41_13 : decode jdk_48_method_27_code 13 = .ok (.iload_n 3, 1) := by decide +kernel
theorem d41_14 : decode jdk_48_method_27_code 14 = .ok (.ldc 200, 2) := by decide +kernel
theorem d41_16 : decode jdk_48_method_27_code 16 = .ok (.if_icmp .gt 5, 3) := by decide +kernel
theorem d41_19 : decode jdk_48_method_27_code 19 = .ok (.iload_n 3, 1) := by decide +kernel
theorem d41_20 : decode jdk_48_method_27_code 20 = .ok (.ireturn, 1) := by decide +kernel
theorem d42_0 : decode jdk_29_method_65_code 0 = .ok (.iload_n 0, 1) := by decide +kernel
theorem d42_1 : decode jdk_29_method_65_code 1 = .ok (.iload_n 1, 1) := by decide +kernel
theorem d42_2 : decode jdk_29_method_65_code 2 = .ok (.if_icmp .lt 7, 3) := by decide +kernel
theorem d42_5 : decode jdk_29_method_65_code 5 = .ok (.iload_n 0, 1) := by decide +kernel
theorem d42_6 : decode jdk_29_method_65_code 6 = .ok (.goto 4, 3) := by decide +kernel
theorem d42_9 : decode jdk_29_method_65_code 9 = .ok (.iload_n 1, 1) := by decide +kernel
theorem d42_10 : decode jdk_29_method_65_code 10 = .ok (.ireturn, 1) := by decide +kernel
theorem d43_0 : decode jdk_65_method_121_code 0 = .ok (.iload_n 1, 1) := by decide +kernel
theorem d43_1 : decode jdk_65_method_121_code 1 = .ok (.aload_n 0, 1) := by decide +kernel
theorem d43_2 : decode jdk_65_method_121_code 2 = .ok (.arraylength, 1) := by decide +kernel
theorem d43_3 : decode jdk_65_method_121_code 3 = .ok (.if_icmp .ne 11, 3) := by decide +kernel
theorem d43_14 : decode jdk_65_method_121_code 14 = .ok (.iload_n 1, 1) := by decide +kernel
theorem d43_15 : decode jdk_65_method_121_code 15 = .ok (.newarray .byte, 2) := by decide +kernel
theorem d43_17 : decode jdk_65_method_121_code 17 = .ok (.astore_n 2, 1) := by decide +kernel
theorem d43_18 : decode jdk_65_method_121_code 18 = .ok (.aload_n 0, 1) := by decide +kernel
theorem d43_19 : decode jdk_65_method_121_code 19 = .ok (.iconst 0, 1) := by decide +kernel
theorem d43_20 : decode jdk_65_method_121_code 20 = .ok (.aload_n 2, 1) := by decide +kernel
theorem d43_21 : decode jdk_65_method_121_code 21 = .ok (.iconst 0, 1) := by decide +kernel
theorem d43_22 : decode jdk_65_method_121_code 22 = .ok (.aload_n 0, 1) := by decide +kernel
theorem d43_23 : decode jdk_65_method_121_code 23 = .ok (.arraylength, 1) := by decide +kernel
theorem d43_24 : decode jdk_65_method_121_code 24 = .ok (.iload_n 1, 1) := by decide +kernel
theorem d43_25 : decode jdk_65_method_121_code 25 = .ok (.invokestatic 304, 3) := by decide +kernel
theorem d43_28 : decode jdk_65_method_121_code 28 = .ok (.invokestatic 150, 3) := by decide +kernel
theorem d43_31 : decode jdk_65_method_121_code 31 = .ok (.aload_n 2, 1) := by decide +kernel
theorem d43_32 : decode jdk_65_method_121_code 32 = .ok (.areturn, 1) := by decide +kernel
theorem d44_0 : decode jdk_29_method_69_code 0 = .ok (.iload_n 0, 1) := by decide +kernel
theorem d44_1 : decode jdk_29_method_69_code 1 = .ok (.iload_n 1, 1) := by decide +kernel
theorem d44_2 : decode jdk_29_method_69_code 2 = .ok (.if_icmp .gt 7, 3) := by decide +kernel
theorem d44_5 : decode jdk_29_method_69_code 5 = .ok (.iload_n 0, 1) := by decide +kernel
theorem d44_6 : decode jdk_29_method_69_code 6 = .ok (.goto 4, 3) := by decide +kernel
theorem d44_9 : decode jdk_29_method_69_code 9 = .ok (.iload_n 1, 1) := by decide +kernel
theorem d44_10 : decode jdk_29_method_69_code 10 = .ok (.ireturn, 1) := by decide +kernel
theorem d45_0 : decode jdk_65_method_133_code 0 = .ok (.iload_n 1, 1) := by decide +kernel
theorem d45_1 : decode jdk_65_method_133_code 1 = .ok (.iload_n 2, 1) := by decide +kernel
theorem d45_2 : decode jdk_65_method_133_code 2 = .ok (.invokestatic 343, 3) := by decide +kernel
theorem d45_5 : decode jdk_65_method_133_code 5 = .ok (.iload_n 2, 1) := by decide +kernel
theorem d45_6 : decode jdk_65_method_133_code 6 = .ok (.iload_n 1, 1) := by decide +kernel
theorem d45_7 : decode jdk_65_method_133_code 7 = .ok (.isub, 1) := by decide +kernel
theorem d45_8 : decode jdk_65_method_133_code 8 = .ok (.istore_n 3, 1) := by decide +kernel
theorem d45_9 : decode jdk_65_method_133_code 9 = .ok (.iload_n 3, 1) := by decide +kernel
theorem d45_10 : decode jdk_65_method_133_code 10 = .ok (.newarray .byte, 2) := by decide +kernel
theorem d45_12 : decode jdk_65_method_133_code 12 = .ok (.astore 4, 2) := by decide +kernel
theorem d45_14 : decode jdk_65_method_133_code 14 = .ok (.aload_n 0, 1) := by decide +kernel
theorem d45_15 : decode jdk_65_method_133_code 15 = .ok (.iload_n 1, 1) := by decide +kernel
theorem d45_16 : decode jdk_65_method_133_code 16 = .ok (.aload 4, 2) := by decide +kernel
theorem d45_18 : decode jdk_65_method_133_code 18 = .ok (.iconst 0, 1) := by decide +kernel
theorem d45_19 : decode jdk_65_method_133_code 19 = .ok (.aload_n 0, 1) := by decide +kernel
theorem d45_20 : decode jdk_65_method_133_code 20 = .ok (.arraylength, 1) := by decide +kernel
theorem d45_21 : decode jdk_65_method_133_code 21 = .ok (.iload_n 1, 1) := by decide +kernel
theorem d45_22 : decode jdk_65_method_133_code 22 = .ok (.isub, 1) := by decide +kernel
theorem d45_23 : decode jdk_65_method_133_code 23 = .ok (.iload_n 3, 1) := by decide +kernel
theorem d45_24 : decode jdk_65_method_133_code 24 = .ok (.invokestatic 304, 3) := by decide +kernel
theorem d45_27 : decode jdk_65_method_133_code 27 = .ok (.invokestatic 150, 3) := by decide +kernel
theorem d45_30 : decode jdk_65_method_133_code 30 = .ok (.aload 4, 2) := by decide +kernel
theorem d45_32 : decode jdk_65_method_133_code 32 = .ok (.areturn, 1) := by decide +kernel
theorem d46_0 : decode jdk_65_method_131_code 0 = .ok (.iload_n 1, 1) := by decide +kernel
theorem d46_1 : decode jdk_65_method_131_code 1 = .ok (.iload_n 0, 1) := by decide +kernel
theorem d46_2 : decode jdk_65_method_131_code 2 = .ok (.if_icmp .ge 35, 3) := by decide +kernel
theorem d46_37 : decode jdk_65_method_131_code 37 = .ok (.return_, 1) := by decide +kernel
theorem pd_0 : parseMethodDescriptor "(II)I" = some ⟨[.int, .int], some .int⟩ := by decide +kernel
theorem pd_1 : parseMethodDescriptor "(III)I" = some ⟨[.int, .int, .int], some .int⟩ := by decide +kernel
theorem pd_2 : parseMethodDescriptor "(I)I" = some ⟨[.int], some .int⟩ := by decide +kernel
theorem pd_3 : parseMethodDescriptor "([BI)[B" = some ⟨[(.array .byte), .int], some (.array .byte)⟩ := by decide +kernel
theorem pd_4 : parseMethodDescriptor "(I)V" = some ⟨[.int], none⟩ := by decide +kernel
theorem pd_5 : parseMethodDescriptor "()Z" = some ⟨[], some .boolean⟩ := by decide +kernel
theorem pd_6 : parseMethodDescriptor "(C)Z" = some ⟨[.char], some .boolean⟩ := by decide +kernel
theorem pd_7 : parseMethodDescriptor "(C)Ljava/lang/AbstractStringBuilder;" = some ⟨[.char], some (.object "java/lang/AbstractStringBuilder")⟩ := by decide +kernel
theorem pd_8 : parseMethodDescriptor "()[B" = some ⟨[], some (.array .byte)⟩ := by decide +kernel
theorem pd_9 : parseMethodDescriptor "()I" = some ⟨[], some .int⟩ := by decide +kernel
theorem pd_10 : parseMethodDescriptor "(IIILjava/util/function/BiFunction;)I" = some ⟨[.int, .int, .int, (.object "java/util/function/BiFunction")], some .int⟩ := by decide +kernel
theorem pd_11 : parseMethodDescriptor "(Ljava/lang/String;II)V" = some ⟨[(.object "java/lang/String"), .int, .int], none⟩ := by decide +kernel
theorem pd_12 : parseMethodDescriptor "(Ljava/lang/CharSequence;II)Ljava/lang/AbstractStringBuilder;" = some ⟨[(.object "java/lang/CharSequence"), .int, .int], some (.object "java/lang/AbstractStringBuilder")⟩ := by decide +kernel
theorem pd_13 : parseMethodDescriptor "(II)V" = some ⟨[.int, .int], none⟩ := by decide +kernel
theorem pd_14 : parseMethodDescriptor "([BII)[B" = some ⟨[(.array .byte), .int, .int], some (.array .byte)⟩ := by decide +kernel
theorem pd_15 : parseMethodDescriptor "(Ljava/lang/AbstractStringBuilder;Ljava/lang/Void;)V" = some ⟨[(.object "java/lang/AbstractStringBuilder"), (.object "java/lang/Void")], none⟩ := by decide +kernel
theorem pd_16 : parseMethodDescriptor "(Ljava/lang/StringBuilder;)V" = some ⟨[(.object "java/lang/StringBuilder")], none⟩ := by decide +kernel
theorem pd_17 : parseMethodDescriptor "(I)C" = some ⟨[.int], some .char⟩ := by decide +kernel
theorem pd_18 : parseMethodDescriptor "(C)Ljava/lang/StringBuilder;" = some ⟨[.char], some (.object "java/lang/StringBuilder")⟩ := by decide +kernel
theorem pd_19 : parseMethodDescriptor "(Ljava/lang/CharSequence;II)Ljava/lang/StringBuilder;" = some ⟨[(.object "java/lang/CharSequence"), .int, .int], some (.object "java/lang/StringBuilder")⟩ := by decide +kernel
theorem pd_20 : parseMethodDescriptor "()Ljava/lang/String;" = some ⟨[], some (.object "java/lang/String")⟩ := by decide +kernel
theorem pd_21 : parseMethodDescriptor "([CIILjava/lang/Void;)V" = some ⟨[(.array .char), .int, .int, (.object "java/lang/Void")], none⟩ := by decide +kernel
theorem pd_22 : parseMethodDescriptor "([C)V" = some ⟨[(.array .char)], none⟩ := by decide +kernel
theorem pd_23 : parseMethodDescriptor "(ICCCC)Ljava/lang/String;" = some ⟨[.int, .char, .char, .char, .char], some (.object "java/lang/String")⟩ := by decide +kernel
theorem pd_24 : parseMethodDescriptor "(Ljava/lang/String;)Ljava/lang/String;" = some ⟨[(.object "java/lang/String")], some (.object "java/lang/String")⟩ := by decide +kernel
theorem pd_25 : parseMethodDescriptor "(Ljava/lang/String;[CII)Z" = some ⟨[(.object "java/lang/String"), (.array .char), .int, .int], some .boolean⟩ := by decide +kernel
theorem pd_26 : parseMethodDescriptor "([CIC)I" = some ⟨[(.array .char), .int, .char], some .int⟩ := by decide +kernel
theorem own_wi {Z : State} {a0 : Array Value} (hw : ∀ d ∈ tables_1, d.before a0 Z = true) : ∀ d ∈ StrChars.Road.words, d.before a0 Z = true := fun d hd => hw d ((by decide +kernel : ∀ d ∈ StrChars.Road.words, d ∈ tables_1) d hd)
theorem own_wl {Z : State} {a0 : Array Value} (hw : ∀ d ∈ tables_1, d.before a0 Z = true) : ∀ d ∈ StrChars.Road.wordsLen, d.before a0 Z = true := fun d hd => hw d ((by decide +kernel : ∀ d ∈ StrChars.Road.wordsLen, d ∈ tables_1) d hd)
theorem own_wch {Z : State} {a0 : Array Value} (hw : ∀ d ∈ tables_1, d.before a0 Z = true) : ∀ d ∈ StrChars.Road.wordsChN, d.before a0 Z = true := fun d hd => hw d ((by decide +kernel : ∀ d ∈ StrChars.Road.wordsChN, d ∈ tables_1) d hd)
set_option maxRecDepth 65536 in
set_option maxHeartbeats 40000000 in
theorem rmMaxN (l : Launch) (Z : State) (a0 : Array Value) (hw : ∀ d ∈ tables_1, d.before a0 Z = true) (a b : Nat) (h0 : Heap) (O0 : Old Z Z.heap.size h0) (la : a < 2147483648) (lb : b < 2147483648) :
    own_NC l Z (⟨"java/lang/Math", "max", "(II)I"⟩ : MethodName) jdk_29_method_65_code 2 (some .int) ({ frames := 0, cells := 0, slots := 0, locals := 0 } : Room) #[(.int (Int32.ofNat a)), (.int (Int32.ofNat b))] h0 (fun v h => v = some (.int (Int32.ofNat (max a b))) ∧ h = h0) := by
  refine own_nc (Jvm.Free.JP.mathPlain rfl (by decide +kernel)) ?_
  intro p e s m below meth c s₁ S0 X0 hx hby hml hret hnm hown hZ e0 cc
  have N0 := Fr.nil Z.heap.size
  have c0 : Steps p.tables e below S0 (s₁.setTop (mkF m 0 #[.val (.int (Int32.ofNat a)), .val (.int (Int32.ofNat b))] [])) := cc.trans (XT.entry rfl)
  have c1 : Steps p.tables e below S0 (s₁.setTop (mkF m 2 #[.val (.int (Int32.ofNat a)), .val (.int (Int32.ofNat b))] [(.int (Int32.ofNat b)), (.int (Int32.ofNat a))])) := c0.trans (by
    refine XS.iloadN X0.here hx rfl (hb hby d42_0) rfl ?_
    refine XS.iloadN X0.here hx rfl (hb hby d42_1) rfl ?_
    exact Steps.refl _)
  by_cases hc2 : (Int32.ofNat a) < (Int32.ofNat b)
  · skip
    have c3 : Steps p.tables e below S0 (s₁.setTop (mkF m 10 #[.val (.int (Int32.ofNat a)), .val (.int (Int32.ofNat b))] [(.int (Int32.ofNat b))])) := c1.trans (by
      refine XS.icmpYes X0.here hx rfl (pc0 := 2) (pc' := 9) rfl (hb hby d42_2) rfl (tlt hc2).1 (by decide) (by decide) ?_
      refine XS.iloadN X0.here hx rfl (hb hby d42_9) rfl ?_
      exact Steps.refl _)
    refine ⟨s₁, (some (.int (Int32.ofNat b))), _, _, _, X0, by decide, by decide, (fun q => by cases q), N0, ?_, fun fs hr => ?_⟩
    · rw [e0]
      exact ⟨by rw [← own_maxN la lb]; simp [hc2], rfl⟩
    · exact c3.trans (retI X0 hx hret (hb hby d42_10) hr)
  · skip
    have c5 : Steps p.tables e below S0 (s₁.setTop (mkF m 10 #[.val (.int (Int32.ofNat a)), .val (.int (Int32.ofNat b))] [(.int (Int32.ofNat a))])) := c1.trans (by
      refine XS.icmpNo X0.here hx rfl (hb hby d42_2) rfl (flt hc2).1 ?_
      refine XS.iloadN X0.here hx rfl (hb hby d42_5) rfl ?_
      refine XS.goto X0.here hx rfl (pc0 := 6) (pc' := 10) rfl (hb hby d42_6) (by decide) (by decide) ?_
      exact Steps.refl _)
    refine ⟨s₁, (some (.int (Int32.ofNat a))), _, _, _, X0, by decide, by decide, (fun q => by cases q), N0, ?_, fun fs hr => ?_⟩
    · rw [e0]
      exact ⟨by rw [← own_maxN la lb]; simp [hc2], rfl⟩
    · exact c5.trans (retI X0 hx hret (hb hby d42_10) hr)
set_option maxRecDepth 65536 in
set_option maxHeartbeats 40000000 in
theorem rmMinN (l : Launch) (Z : State) (a0 : Array Value) (hw : ∀ d ∈ tables_1, d.before a0 Z = true) (a b : Nat) (h0 : Heap) (O0 : Old Z Z.heap.size h0) (la : a < 2147483648) (lb : b < 2147483648) :
    own_NC l Z (⟨"java/lang/Math", "min", "(II)I"⟩ : MethodName) jdk_29_method_69_code 2 (some .int) ({ frames := 0, cells := 0, slots := 0, locals := 0 } : Room) #[(.int (Int32.ofNat a)), (.int (Int32.ofNat b))] h0 (fun v h => v = some (.int (Int32.ofNat (min a b))) ∧ h = h0) := by
  refine own_nc (Jvm.Free.JP.mathPlain rfl (by decide +kernel)) ?_
  intro p e s m below meth c s₁ S0 X0 hx hby hml hret hnm hown hZ e0 cc
  have N0 := Fr.nil Z.heap.size
  have c0 : Steps p.tables e below S0 (s₁.setTop (mkF m 0 #[.val (.int (Int32.ofNat a)), .val (.int (Int32.ofNat b))] [])) := cc.trans (XT.entry rfl)
  have c1 : Steps p.tables e below S0 (s₁.setTop (mkF m 2 #[.val (.int (Int32.ofNat a)), .val (.int (Int32.ofNat b))] [(.int (Int32.ofNat b)), (.int (Int32.ofNat a))])) := c0.trans (by
    refine XS.iloadN X0.here hx rfl (hb hby d44_0) rfl ?_
    refine XS.iloadN X0.here hx rfl (hb hby d44_1) rfl ?_
    exact Steps.refl _)
  by_cases hc2 : (Int32.ofNat b) < (Int32.ofNat a)
  · skip
    have c3 : Steps p.tables e below S0 (s₁.setTop (mkF m 10 #[.val (.int (Int32.ofNat a)), .val (.int (Int32.ofNat b))] [(.int (Int32.ofNat b))])) := c1.trans (by
      refine XS.icmpYes X0.here hx rfl (pc0 := 2) (pc' := 9) rfl (hb hby d44_2) rfl (tlt hc2).2.2.1 (by decide) (by decide) ?_
      refine XS.iloadN X0.here hx rfl (hb hby d44_9) rfl ?_
      exact Steps.refl _)
    refine ⟨s₁, (some (.int (Int32.ofNat b))), _, _, _, X0, by decide, by decide, (fun q => by cases q), N0, ?_, fun fs hr => ?_⟩
    · rw [e0]
      exact ⟨by rw [← own_minN la lb]; simp [hc2], rfl⟩
    · exact c3.trans (retI X0 hx hret (hb hby d44_10) hr)
  · skip
    have c5 : Steps p.tables e below S0 (s₁.setTop (mkF m 10 #[.val (.int (Int32.ofNat a)), .val (.int (Int32.ofNat b))] [(.int (Int32.ofNat a))])) := c1.trans (by
      refine XS.icmpNo X0.here hx rfl (hb hby d44_2) rfl (flt hc2).2.2.1 ?_
      refine XS.iloadN X0.here hx rfl (hb hby d44_5) rfl ?_
      refine XS.goto X0.here hx rfl (pc0 := 6) (pc' := 10) rfl (hb hby d44_6) (by decide) (by decide) ?_
      exact Steps.refl _)
    refine ⟨s₁, (some (.int (Int32.ofNat a))), _, _, _, X0, by decide, by decide, (fun q => by cases q), N0, ?_, fun fs hr => ?_⟩
    · rw [e0]
      exact ⟨by rw [← own_minN la lb]; simp [hc2], rfl⟩
    · exact c5.trans (retI X0 hx hret (hb hby d44_10) hr)
set_option maxRecDepth 65536 in
set_option maxHeartbeats 40000000 in
theorem rmNL (l : Launch) (Z : State) (a0 : Array Value) (hw : ∀ d ∈ tables_1, d.before a0 Z = true) (L g k : Nat) (h0 : Heap) (O0 : Old Z Z.heap.size h0) (hs : L + max g k ≤ 100000) (hp : 0 < L + max g k) :
    own_NC l Z (⟨"jdk/internal/util/ArraysSupport", "newLength", "(III)I"⟩ : MethodName) jdk_48_method_27_code 4 (some .int) ({ frames := 1, cells := 0, slots := 0, locals := 14 } : Room) #[(.int (Int32.ofNat L)), (.int (Int32.ofNat g)), (.int (Int32.ofNat k))] h0 (fun v h => v = some (.int (Int32.ofNat (L + max g k))) ∧ h = h0) := by
  refine own_nc (plainFor_of_name (by first | (simp [plainName, overriddenIn]; done) | decide +kernel)) ?_
  intro p e s m below meth c s₁ S0 X0 hx hby hml hret hnm hown hZ e0 cc
  have N0 := Fr.nil Z.heap.size
  have c0 : Steps p.tables e below S0 (s₁.setTop (mkF m 0 #[.val (.int (Int32.ofNat L)), .val (.int (Int32.ofNat g)), .val (.int (Int32.ofNat k)), .unset] [])) := cc.trans (XT.entry rfl)
  have c1 : Steps p.tables e below S0 (s₁.setTop (mkF m 3 #[.val (.int (Int32.ofNat L)), .val (.int (Int32.ofNat g)), .val (.int (Int32.ofNat k)), .unset] [(.int (Int32.ofNat k)), (.int (Int32.ofNat g)), (.int (Int32.ofNat L))])) := c0.trans (by
    refine XS.iloadN X0.here hx rfl (hb hby d41_0) rfl ?_
    refine XS.iloadN X0.here hx rfl (hb hby d41_1) rfl ?_
    refine XS.iloadN X0.here hx rfl (hb hby d41_2) rfl ?_
    exact Steps.refl _)
  obtain ⟨v2, T2, L2, X2, ⟨N2', rfl, e2⟩, c2'⟩ := own_stat X0 hx hml hZ hown (hw _ (List.mem_of_getElem? (i := 219) rfl)) (hw _ (List.mem_of_getElem? (i := 220) rfl)) (hw _ (List.mem_of_getElem? (i := 221) rfl)) (hw _ (List.mem_of_getElem? (i := 222) rfl)) (by decide) (kc := 0) (ks := 0) (h := h0) (W := 1) (argsL := [(.int (Int32.ofNat g)), (.int (Int32.ofNat k))]) (rest := [(.int (Int32.ofNat L))]) (own_pay (W := 1) (rmMaxN l Z a0 hw g k h0 O0 (by omega) (by omega)) hZ (hw _ (List.mem_of_getElem? (i := 222) rfl)) (hw _ (List.mem_of_getElem? (i := 221) rfl)) (by decide) (by decide)) c1 (lenOf pd_0 rfl) rfl (hb hby d41_3) e0
  have N2 := Fr.app N0 N2'
  have c2 : Steps p.tables e below S0 (T2.setTop (mkF m 6 #[.val (.int (Int32.ofNat L)), .val (.int (Int32.ofNat g)), .val (.int (Int32.ofNat k)), .unset] [(.int (Int32.ofNat (max g k))), (.int (Int32.ofNat L))])) := c2'
  have c3 : Steps p.tables e below S0 (T2.setTop (mkF m 7 #[.val (.int (Int32.ofNat L)), .val (.int (Int32.ofNat g)), .val (.int (Int32.ofNat k)), .unset] [(.int ((Int32.ofNat L) + (Int32.ofNat (max g k))))])) := c2.trans (by
    refine XS.iadd X2.here hx rfl (hb hby d41_6) rfl ?_
    exact Steps.refl _)
  have eq4 : ((Int32.ofNat L) + (Int32.ofNat (max g k))) = (Int32.ofNat (L + max g k)) := own_addN _ _
  have c4 : Steps p.tables e below S0 (T2.setTop (mkF m 7 #[.val (.int (Int32.ofNat L)), .val (.int (Int32.ofNat g)), .val (.int (Int32.ofNat k)), .unset] [(.int (Int32.ofNat (L + max g k)))])) := by have q := c3; rw [eq4] at q; exact q
  have c6 : Steps p.tables e below S0 (T2.setTop (mkF m 20 #[.val (.int (Int32.ofNat L)), .val (.int (Int32.ofNat g)), .val (.int (Int32.ofNat k)), .val (.int (Int32.ofNat (L + max g k)))] [(.int (Int32.ofNat (L + max g k)))])) := c4.trans (by
    refine XS.istoreN X2.here hx rfl (hb hby d41_7) rfl (l' := #[.val (.int (Int32.ofNat L)), .val (.int (Int32.ofNat g)), .val (.int (Int32.ofNat k)), .val (.int (Int32.ofNat (L + max g k)))]) rfl ?_
    refine XS.iconst X2.here hx rfl (hb hby d41_8) ?_
    refine XS.iloadN X2.here hx rfl (hb hby d41_9) rfl ?_
    refine XS.icmpNo X2.here hx rfl (hb hby d41_10) rfl (tlt ((own_lt32 (i := 0) (by omega) (by omega)).mpr hp)).2.1 ?_
    refine XS.iloadN X2.here hx rfl (hb hby d41_13) rfl ?_
    refine X2.ldcInt hx hown (mvT hZ (hw _ (List.mem_of_getElem? (i := 223) rfl))) (g := (mkF m 14 #[.val (.int (Int32.ofNat L)), .val (.int (Int32.ofNat g)), .val (.int (Int32.ofNat k)), .val (.int (Int32.ofNat (L + max g k)))] [(.int (Int32.ofNat (L + max g k)))])) rfl (hb hby d41_14) _ ?_
    refine XS.icmpNo X2.here hx rfl (hb hby d41_16) rfl (flt (fun q => absurd ((own_lt32 (i := 2147483639) (by omega) (by omega)).mp q) (by omega))).2.2.1 ?_
    refine XS.iloadN X2.here hx rfl (hb hby d41_19) rfl ?_
    exact Steps.refl _)
  refine ⟨T2, (some (.int (Int32.ofNat (L + max g k)))), _, _, _, X2, by decide, by decide, (fun q => by cases q), N2, ?_, fun fs hr => ?_⟩
  · rw [e2]
    exact ⟨rfl, rfl⟩
  · exact c6.trans (retI X2 hx hret (hb hby d41_20) hr)
set_option maxRecDepth 65536 in
set_option maxHeartbeats 40000000 in
theorem rmNC (l : Launch) (Z : State) (a0 : Array Value) (hw : ∀ d ∈ tables_1, d.before a0 Z = true) (b t : Addr) (kb : ClassId) (L : Nat) (bs : List Int32) (mc : Nat) (h0 : Heap) (O0 : Old Z Z.heap.size h0) (hsb : own_SB Z h0 b t kb L bs) (hm : L < mc) (hm4 : mc ≤ 4000) :
    own_NC l Z (⟨"java/lang/AbstractStringBuilder", "newCapacity", "(I)I"⟩ : MethodName) jdk_68_method_10_code 6 (some .int) ({ frames := 2, cells := 0, slots := 0, locals := 29 } : Room) #[(.ref b), (.int (Int32.ofNat mc))] h0 (fun v h => v = some (.int (Int32.ofNat (L + max (mc - L) (L + 2)))) ∧ h = h0) := by
  refine own_nc (plainFor_of_name (by first | (simp [plainName, overriddenIn]; done) | decide +kernel)) ?_
  intro p e s m below meth c s₁ S0 X0 hx hby hml hret hnm hown hZ e0 cc
  have N0 := Fr.nil Z.heap.size
  have c0 : Steps p.tables e below S0 (s₁.setTop (mkF m 0 #[.val (.ref b), .val (.int (Int32.ofNat mc)), .unset, .unset, .unset, .unset] [])) := cc.trans (XT.entry rfl)
  obtain ⟨Eb, Fc, Fo, Fv, Vt, Et, hle, hL4, hbt, gb, gt⟩ := id hsb
  obtain ⟨T1, X1, e1, st1⟩ := getF X0 hx hZ hown (host := "") (Or.inl (hw _ (List.mem_of_getElem? (i := 104) rfl))) Via.refl e0 Fv (g := (mkF m 1 #[.val (.ref b), .val (.int (Int32.ofNat mc)), .unset, .unset, .unset, .unset] [(.ref b)])) rfl rfl (hb hby d40_1)
  obtain ⟨cl2, Ar2, q2, S2, M2, H2, G2⟩ := id Vt
  obtain ⟨T3, X3, e3, st3⟩ := getF X1 hx hZ hown (host := "") (Or.inl (hw _ (List.mem_of_getElem? (i := 106) rfl))) Via.refl e1 Fo (g := (mkF m 8 #[.val (.ref b), .val (.int (Int32.ofNat mc)), .val (.int (Int32.ofNat L)), .unset, .unset, .unset] [(.ref b), (.int (Int32.ofNat mc))])) rfl rfl (hb hby d40_8)
  have c4 : Steps p.tables e below S0 (T3.setTop (mkF m 12 #[.val (.ref b), .val (.int (Int32.ofNat mc)), .val (.int (Int32.ofNat L)), .unset, .unset, .unset] [(.int ((Int32.ofNat mc) <<< ((0 : Int32) &&& 31)))])) := c0.trans (by
    refine XS.aloadN X0.here hx rfl (hb hby d40_0) rfl rfl ?_
    refine st1 _ ?_
    refine X1.arraylength hx (by rw [show T1.heap = h0 from e1]; exact Ar2.1) (State.isArrayOf_alike (hZ).alike Ar2.2.1) (g := (mkF m 4 #[.val (.ref b), .val (.int (Int32.ofNat mc)), .unset, .unset, .unset, .unset] [(.ref t)])) rfl rfl (hb hby d40_4) _ ?_
    rw [len_of S2 M2]
    refine XS.istoreN X1.here hx rfl (hb hby d40_5) rfl (l' := #[.val (.ref b), .val (.int (Int32.ofNat mc)), .val (.int (Int32.ofNat L)), .unset, .unset, .unset]) rfl ?_
    refine XS.iloadN X1.here hx rfl (hb hby d40_6) rfl ?_
    refine XS.aloadN X1.here hx rfl (hb hby d40_7) rfl rfl ?_
    refine st3 _ ?_
    show Steps p.tables e below (T3.setTop (mkF m 11 #[.val (.ref b), .val (.int (Int32.ofNat mc)), .val (.int (Int32.ofNat L)), .unset, .unset, .unset] [(.int (0 : Int32)), (.int (Int32.ofNat mc))])) _
    refine XS.ishl X3.here hx rfl (hb hby d40_11) rfl ?_
    exact Steps.refl _)
  have eq5 : ((Int32.ofNat mc) <<< ((0 : Int32) &&& 31)) = (Int32.ofNat mc) := own_sl0 _
  have c5 : Steps p.tables e below S0 (T3.setTop (mkF m 12 #[.val (.ref b), .val (.int (Int32.ofNat mc)), .val (.int (Int32.ofNat L)), .unset, .unset, .unset] [(.int (Int32.ofNat mc))])) := by have q := c4; rw [eq5] at q; exact q
  have c6 : Steps p.tables e below S0 (T3.setTop (mkF m 16 #[.val (.ref b), .val (.int (Int32.ofNat mc)), .val (.int (Int32.ofNat L)), .val (.int (Int32.ofNat mc)), .unset, .unset] [(.int ((Int32.ofNat mc) - (Int32.ofNat L)))])) := c5.trans (by
    refine XS.istoreN X3.here hx rfl (hb hby d40_12) rfl (l' := #[.val (.ref b), .val (.int (Int32.ofNat mc)), .val (.int (Int32.ofNat L)), .val (.int (Int32.ofNat mc)), .unset, .unset]) rfl ?_
    refine XS.iloadN X3.here hx rfl (hb hby d40_13) rfl ?_
    refine XS.iloadN X3.here hx rfl (hb hby d40_14) rfl ?_
    refine XS.isub X3.here hx rfl (hb hby d40_15) rfl ?_
    exact Steps.refl _)
  have eq7 : ((Int32.ofNat mc) - (Int32.ofNat L)) = (Int32.ofNat (mc - L)) := own_subN (by omega)
  have c7 : Steps p.tables e below S0 (T3.setTop (mkF m 16 #[.val (.ref b), .val (.int (Int32.ofNat mc)), .val (.int (Int32.ofNat L)), .val (.int (Int32.ofNat mc)), .unset, .unset] [(.int (Int32.ofNat (mc - L)))])) := by have q := c6; rw [eq7] at q; exact q
  obtain ⟨T8, X8, e8, st8⟩ := getF X3 hx hZ hown (host := "") (Or.inl (hw _ (List.mem_of_getElem? (i := 106) rfl))) Via.refl e3 Fo (g := (mkF m 24 #[.val (.ref b), .val (.int (Int32.ofNat mc)), .val (.int (Int32.ofNat L)), .val (.int (Int32.ofNat mc)), .val (.int (Int32.ofNat (mc - L))), .unset] [(.ref b), (.int (2 : Int32)), (.int (Int32.ofNat L)), (.int (Int32.ofNat (mc - L))), (.int (Int32.ofNat L))])) rfl rfl (hb hby d40_24)
  have c9 : Steps p.tables e below S0 (T8.setTop (mkF m 29 #[.val (.ref b), .val (.int (Int32.ofNat mc)), .val (.int (Int32.ofNat L)), .val (.int (Int32.ofNat mc)), .val (.int (Int32.ofNat (mc - L))), .unset] [(.int ((Int32.ofNat L) + (2 : Int32))), (.int (Int32.ofNat (mc - L))), (.int (Int32.ofNat L))])) := c7.trans (by
    refine XS.istore X3.here hx rfl (hb hby d40_16) rfl (l' := #[.val (.ref b), .val (.int (Int32.ofNat mc)), .val (.int (Int32.ofNat L)), .val (.int (Int32.ofNat mc)), .val (.int (Int32.ofNat (mc - L))), .unset]) rfl ?_
    refine XS.iloadN X3.here hx rfl (hb hby d40_18) rfl ?_
    refine XS.iload X3.here hx rfl (hb hby d40_19) rfl ?_
    refine XS.iloadN X3.here hx rfl (hb hby d40_21) rfl ?_
    refine XS.iconst X3.here hx rfl (hb hby d40_22) ?_
    refine XS.aloadN X3.here hx rfl (hb hby d40_23) rfl rfl ?_
    refine st8 _ ?_
    show Steps p.tables e below (T8.setTop (mkF m 27 #[.val (.ref b), .val (.int (Int32.ofNat mc)), .val (.int (Int32.ofNat L)), .val (.int (Int32.ofNat mc)), .val (.int (Int32.ofNat (mc - L))), .unset] [(.int (0 : Int32)), (.int (2 : Int32)), (.int (Int32.ofNat L)), (.int (Int32.ofNat (mc - L))), (.int (Int32.ofNat L))])) _
    refine XS.ishl X8.here hx rfl (hb hby d40_27) rfl ?_
    refine XS.iadd X8.here hx rfl (hb hby d40_28) rfl ?_
    exact Steps.refl _)
  have eq10 : ((Int32.ofNat L) + (2 : Int32)) = (Int32.ofNat (L + 2)) := own_addN L 2
  have c10 : Steps p.tables e below S0 (T8.setTop (mkF m 29 #[.val (.ref b), .val (.int (Int32.ofNat mc)), .val (.int (Int32.ofNat L)), .val (.int (Int32.ofNat mc)), .val (.int (Int32.ofNat (mc - L))), .unset] [(.int (Int32.ofNat (L + 2))), (.int (Int32.ofNat (mc - L))), (.int (Int32.ofNat L))])) := by have q := c9; rw [eq10] at q; exact q
  obtain ⟨v11, T11, L11, X11, ⟨N11', rfl, e11⟩, c11'⟩ := own_stat X8 hx hml hZ hown (hw _ (List.mem_of_getElem? (i := 215) rfl)) (hw _ (List.mem_of_getElem? (i := 216) rfl)) (hw _ (List.mem_of_getElem? (i := 217) rfl)) (hw _ (List.mem_of_getElem? (i := 218) rfl)) (by decide) (kc := 0) (ks := 0) (h := h0) (W := 0) (argsL := [(.int (Int32.ofNat L)), (.int (Int32.ofNat (mc - L))), (.int (Int32.ofNat (L + 2)))]) (rest := []) (own_pay (W := 0) (rmNL l Z a0 hw L (mc - L) (L + 2) h0 O0 (by omega) (by omega)) hZ (hw _ (List.mem_of_getElem? (i := 218) rfl)) (hw _ (List.mem_of_getElem? (i := 217) rfl)) (by decide) (by decide)) c10 (lenOf pd_1 rfl) rfl (hb hby d40_29) e8
  have N11 := Fr.app N0 N11'
  have c11 : Steps p.tables e below S0 (T11.setTop (mkF m 32 #[.val (.ref b), .val (.int (Int32.ofNat mc)), .val (.int (Int32.ofNat L)), .val (.int (Int32.ofNat mc)), .val (.int (Int32.ofNat (mc - L))), .unset] [(.int (Int32.ofNat (L + max (mc - L) (L + 2))))])) := c11'
  obtain ⟨T13, X13, e13, st13⟩ := getF X11 hx hZ hown (host := "") (Or.inl (hw _ (List.mem_of_getElem? (i := 106) rfl))) Via.refl e11 Fo (g := (mkF m 54 #[.val (.ref b), .val (.int (Int32.ofNat mc)), .val (.int (Int32.ofNat L)), .val (.int (Int32.ofNat mc)), .val (.int (Int32.ofNat (mc - L))), .val (.int (Int32.ofNat (L + max (mc - L) (L + 2))))] [(.ref b), (.int (Int32.ofNat (L + max (mc - L) (L + 2))))])) rfl rfl (hb hby d40_54)
  have c14 : Steps p.tables e below S0 (T13.setTop (mkF m 58 #[.val (.ref b), .val (.int (Int32.ofNat mc)), .val (.int (Int32.ofNat L)), .val (.int (Int32.ofNat mc)), .val (.int (Int32.ofNat (mc - L))), .val (.int (Int32.ofNat (L + max (mc - L) (L + 2))))] [(.int ((Int32.ofNat (L + max (mc - L) (L + 2))) >>> ((0 : Int32) &&& 31)))])) := c11.trans (by
    refine XS.istore X11.here hx rfl (hb hby d40_32) rfl (l' := #[.val (.ref b), .val (.int (Int32.ofNat mc)), .val (.int (Int32.ofNat L)), .val (.int (Int32.ofNat mc)), .val (.int (Int32.ofNat (mc - L))), .val (.int (Int32.ofNat (L + max (mc - L) (L + 2))))]) rfl ?_
    refine XS.iload X11.here hx rfl (hb hby d40_34) rfl ?_
    refine X11.ldcInt hx hown (mvT hZ (hw _ (List.mem_of_getElem? (i := 224) rfl))) (g := (mkF m 36 #[.val (.ref b), .val (.int (Int32.ofNat mc)), .val (.int (Int32.ofNat L)), .val (.int (Int32.ofNat mc)), .val (.int (Int32.ofNat (mc - L))), .val (.int (Int32.ofNat (L + max (mc - L) (L + 2))))] [(.int (Int32.ofNat (L + max (mc - L) (L + 2))))])) rfl (hb hby d40_36) _ ?_
    refine XS.icmpYes X11.here hx rfl (pc0 := 38) (pc' := 51) rfl (hb hby d40_38) rfl (feq (own_neN (b := 2147483647) (by omega) (by omega) (by omega))).2 (by decide) (by decide) ?_
    refine XS.iload X11.here hx rfl (hb hby d40_51) rfl ?_
    refine XS.aloadN X11.here hx rfl (hb hby d40_53) rfl rfl ?_
    refine st13 _ ?_
    show Steps p.tables e below (T13.setTop (mkF m 57 #[.val (.ref b), .val (.int (Int32.ofNat mc)), .val (.int (Int32.ofNat L)), .val (.int (Int32.ofNat mc)), .val (.int (Int32.ofNat (mc - L))), .val (.int (Int32.ofNat (L + max (mc - L) (L + 2))))] [(.int (0 : Int32)), (.int (Int32.ofNat (L + max (mc - L) (L + 2))))])) _
    refine XS.ishr X13.here hx rfl (hb hby d40_57) rfl ?_
    exact Steps.refl _)
  have eq15 : ((Int32.ofNat (L + max (mc - L) (L + 2))) >>> ((0 : Int32) &&& 31)) = (Int32.ofNat (L + max (mc - L) (L + 2))) := own_sh0 _
  have c15 : Steps p.tables e below S0 (T13.setTop (mkF m 58 #[.val (.ref b), .val (.int (Int32.ofNat mc)), .val (.int (Int32.ofNat L)), .val (.int (Int32.ofNat mc)), .val (.int (Int32.ofNat (mc - L))), .val (.int (Int32.ofNat (L + max (mc - L) (L + 2))))] [(.int (Int32.ofNat (L + max (mc - L) (L + 2))))])) := by have q := c14; rw [eq15] at q; exact q
  refine ⟨T13, (some (.int (Int32.ofNat (L + max (mc - L) (L + 2))))), _, _, _, X13, by decide, by decide, (fun q => by cases q), N11, ?_, fun fs hr => ?_⟩
  · rw [e13]
    exact ⟨rfl, rfl⟩
  · exact c15.trans (retI X13 hx hret (hb hby d40_58) hr)
set_option maxRecDepth 65536 in
set_option maxHeartbeats 40000000 in
theorem rmCO (l : Launch) (Z : State) (a0 : Array Value) (hw : ∀ d ∈ tables_1, d.before a0 Z = true) (t : Addr) (kb : ClassId) (L n : Nat) (bs : List Int32) (h0 : Heap) (O0 : Old Z Z.heap.size h0) (Vt : Arv Z h0 t kb .byte (Int32.ofNat L) (own_bv bs) (.int (0 : Int32))) (hle : bs.length ≤ L) (hn : L < n) (hc : n ≤ 12) :
    own_NC l Z (⟨"java/util/Arrays", "copyOf", "([BI)[B"⟩ : MethodName) jdk_65_method_121_code 3 (some (.array .byte)) ({ frames := 1, cells := 1, slots := 12, locals := 40 } : Room) #[(.ref t), (.int (Int32.ofNat n))] h0 (fun v h => ∃ (t2 : Addr) (kb2 : ClassId), v = some (.ref t2) ∧ Keep h0 h [] ∧ h0.size ≤ t2 ∧ Arv Z h t2 kb2 .byte (Int32.ofNat n) (own_bv bs) (.int (0 : Int32)) ∧ Exa Z h t2 "[B") := by
  refine own_nc (plainFor_of_name (by first | (simp [plainName, overriddenIn]; done) | decide +kernel)) ?_
  intro p e s m below meth c s₁ S0 X0 hx hby hml hret hnm hown hZ e0 cc
  have N0 := Fr.nil Z.heap.size
  have c0 : Steps p.tables e below S0 (s₁.setTop (mkF m 0 #[.val (.ref t), .val (.int (Int32.ofNat n)), .unset] [])) := cc.trans (XT.entry rfl)
  obtain ⟨cl1, Ar1, q1, S1, M1, H1, G1⟩ := id Vt
  obtain ⟨T2, h2, k2, X2, e2, E2, A2, Ev2, st2⟩ := newPE X0 hx hZ (hw _ (List.mem_of_getElem? (i := 23) rfl)) e0 (g := (mkF m 15 #[.val (.ref t), .val (.int (Int32.ofNat n)), .unset] [(.int (Int32.ofNat n))])) rfl (hb hby d43_15) rfl (own_nneg (by omega)) (cap := 12) (by rw [own_clamp (by omega)]; exact hc) (by decide) (by decide) (by decide) (ad := "[B") rfl
  obtain ⟨b2, g2⟩ : ∃ z, z = h0.size := ⟨_, rfl⟩
  rw [← g2] at A2 Ev2 st2
  have lo2 : h0.size ≤ b2 := Nat.le_of_eq g2.symm
  have ge2 : Z.heap.size ≤ b2 := Nat.le_trans O0.2.1 lo2
  have V2 := Arv.new A2 (own_nneg (by omega))
  obtain ⟨cl3, Ar3, q3, S3, M3, H3, G3⟩ := id (Vt.ext E2)
  have c4 : Steps p.tables e below S0 (T2.setTop (mkF m 25 #[.val (.ref t), .val (.int (Int32.ofNat n)), .val (.ref b2)] [(.int (Int32.ofNat n)), (.int (Int32.ofNat L)), (.int (0 : Int32)), (.ref b2), (.int (0 : Int32)), (.ref t)])) := c0.trans (by
    refine XS.iloadN X0.here hx rfl (hb hby d43_0) rfl ?_
    refine XS.aloadN X0.here hx rfl (hb hby d43_1) rfl rfl ?_
    refine X0.arraylength hx (by rw [show s₁.heap = h0 from e0]; exact Ar1.1) (State.isArrayOf_alike (hZ).alike Ar1.2.1) (g := (mkF m 2 #[.val (.ref t), .val (.int (Int32.ofNat n)), .unset] [(.ref t), (.int (Int32.ofNat n))])) rfl rfl (hb hby d43_2) _ ?_
    rw [len_of S1 M1]
    refine XS.icmpYes X0.here hx rfl (pc0 := 3) (pc' := 14) rfl (hb hby d43_3) rfl (feq (own_neN (by omega) (by omega) (by omega))).2 (by decide) (by decide) ?_
    refine XS.iloadN X0.here hx rfl (hb hby d43_14) rfl ?_
    refine st2 _ ?_
    show Steps p.tables e below (T2.setTop (mkF m 17 #[.val (.ref t), .val (.int (Int32.ofNat n)), .unset] [(.ref b2)])) _
    refine XS.astoreN X2.here hx rfl (hb hby d43_17) rfl rfl (l' := #[.val (.ref t), .val (.int (Int32.ofNat n)), .val (.ref b2)]) rfl ?_
    refine XS.aloadN X2.here hx rfl (hb hby d43_18) rfl rfl ?_
    refine XS.iconst X2.here hx rfl (hb hby d43_19) ?_
    refine XS.aloadN X2.here hx rfl (hb hby d43_20) rfl rfl ?_
    refine XS.iconst X2.here hx rfl (hb hby d43_21) ?_
    refine XS.aloadN X2.here hx rfl (hb hby d43_22) rfl rfl ?_
    refine X2.arraylength hx (by rw [show T2.heap = h2 from e2]; exact Ar3.1) (State.isArrayOf_alike (hZ).alike Ar3.2.1) (g := (mkF m 23 #[.val (.ref t), .val (.int (Int32.ofNat n)), .val (.ref b2)] [(.ref t), (.int (0 : Int32)), (.ref b2), (.int (0 : Int32)), (.ref t)])) rfl rfl (hb hby d43_23) _ ?_
    rw [len_of S3 M3]
    refine XS.iloadN X2.here hx rfl (hb hby d43_24) rfl ?_
    show Steps p.tables e below (T2.setTop (mkF m 25 #[.val (.ref t), .val (.int (Int32.ofNat n)), .val (.ref b2)] [(.int (Int32.ofNat n)), (.int (Int32.ofNat L)), (.int (0 : Int32)), (.ref b2), (.int (0 : Int32)), (.ref t)])) _
    exact Steps.refl _)
  obtain ⟨v5, T5, L5, X5, ⟨N5', rfl, e5⟩, c5'⟩ := own_stat X2 hx hml hZ hown (hw _ (List.mem_of_getElem? (i := 228) rfl)) (hw _ (List.mem_of_getElem? (i := 229) rfl)) (hw _ (List.mem_of_getElem? (i := 221) rfl)) (hw _ (List.mem_of_getElem? (i := 230) rfl)) (by decide) (kc := 0) (ks := 0) (h := h2) (W := 4) (argsL := [(.int (Int32.ofNat L)), (.int (Int32.ofNat n))]) (rest := [(.int (0 : Int32)), (.ref b2), (.int (0 : Int32)), (.ref t)]) (own_pay (W := 4) (rmMinN l Z a0 hw L n h2 (O0.ext E2) (by omega) (by omega)) hZ (hw _ (List.mem_of_getElem? (i := 230) rfl)) (hw _ (List.mem_of_getElem? (i := 221) rfl)) (by decide) (by decide)) c4 (lenOf pd_0 rfl) rfl (hb hby d43_25) e2
  have N5 := Fr.app N0 N5'
  have c5 : Steps p.tables e below S0 (T5.setTop (mkF m 28 #[.val (.ref t), .val (.int (Int32.ofNat n)), .val (.ref b2)] [(.int (Int32.ofNat (min L n))), (.int (0 : Int32)), (.ref b2), (.int (0 : Int32)), (.ref t)])) := c5'
  have eq6 : (Int32.ofNat (min L n)) = (Int32.ofNat L) := by rw [Nat.min_eq_left (by omega)]
  have c6 : Steps p.tables e below S0 (T5.setTop (mkF m 28 #[.val (.ref t), .val (.int (Int32.ofNat n)), .val (.ref b2)] [(.int (Int32.ofNat L)), (.int (0 : Int32)), (.ref b2), (.int (0 : Int32)), (.ref t)])) := by have q := c5; rw [eq6] at q; exact q
  obtain ⟨T7, h7, L7, X7, e7, N7, K7, V7, st7⟩ := own_cpV X5 hx hZ hown (hw _ (List.mem_of_getElem? (i := 231) rfl)) (hw _ (List.mem_of_getElem? (i := 157) rfl)) (hw _ (List.mem_of_getElem? (i := 155) rfl)) (hw _ (List.mem_of_getElem? (i := 156) rfl)) e5 (L) (n) (0) (0) (L) (Vt.ext E2) V2 rfl (by omega) (by omega) (by omega) (by omega) (own_bv bs) (own_cp0 bs L hle) N5 ge2 (g := (mkF m 28 #[.val (.ref t), .val (.int (Int32.ofNat n)), .val (.ref b2)] [(.int (Int32.ofNat L)), (.int (0 : Int32)), (.ref b2), (.int (0 : Int32)), (.ref t)])) rfl (by rw [hml]; rfl) rfl (hb hby d43_28) (by decide) (W := 0) (by show 2 * 0 + _ ≤ _; exact Nat.le_of_eq rfl) (by decide)
  have c8 : Steps p.tables e below S0 (T7.setTop (mkF m 32 #[.val (.ref t), .val (.int (Int32.ofNat n)), .val (.ref b2)] [(.ref b2)])) := c6.trans (by
    refine st7 _ ?_
    refine XS.aloadN X7.here hx rfl (hb hby d43_31) rfl rfl ?_
    exact Steps.refl _)
  refine ⟨T7, (some (.ref b2)), _, _, _, X7, by decide, by decide, (fun q => by cases q), N7, ?_, fun fs hr => ?_⟩
  · rw [e7]
    exact ⟨b2, k2, rfl, (((Keep.refl h0 []).ext E2).trans K7 (allS (Or.inr (Nat.le_trans (Keep.refl h0 []).1 lo2)) all0)), (Nat.le_trans (Keep.refl h0 []).1 lo2), V7, (Ev2.keep K7)⟩
  · exact own_retR X7 hx c8 hret rfl rfl (hb hby d43_32) hr
set_option maxRecDepth 65536 in
set_option maxHeartbeats 40000000 in
theorem rmEnsN (l : Launch) (Z : State) (a0 : Array Value) (hw : ∀ d ∈ tables_1, d.before a0 Z = true) (b t : Addr) (kb : ClassId) (L : Nat) (bs : List Int32) (mc : Nat) (h0 : Heap) (O0 : Old Z Z.heap.size h0) (hsb : own_SB Z h0 b t kb L bs) (hm : mc ≤ L) :
    own_NC l Z (⟨"java/lang/AbstractStringBuilder", "ensureCapacityInternal", "(I)V"⟩ : MethodName) jdk_68_method_9_code 3 none ({ frames := 0, cells := 0, slots := 0, locals := 0 } : Room) #[(.ref b), (.int (Int32.ofNat mc))] h0 (fun v h => v = none ∧ h = h0) := by
  refine own_nc (plainFor_of_name (by first | (simp [plainName, overriddenIn]; done) | decide +kernel)) ?_
  intro p e s m below meth c s₁ S0 X0 hx hby hml hret hnm hown hZ e0 cc
  have N0 := Fr.nil Z.heap.size
  have c0 : Steps p.tables e below S0 (s₁.setTop (mkF m 0 #[.val (.ref b), .val (.int (Int32.ofNat mc)), .unset] [])) := cc.trans (XT.entry rfl)
  obtain ⟨Eb, Fc, Fo, Fv, Vt, Et, hle, hL4, hbt, gb, gt⟩ := id hsb
  obtain ⟨T1, X1, e1, st1⟩ := getF X0 hx hZ hown (host := "") (Or.inl (hw _ (List.mem_of_getElem? (i := 104) rfl))) Via.refl e0 Fv (g := (mkF m 1 #[.val (.ref b), .val (.int (Int32.ofNat mc)), .unset] [(.ref b)])) rfl rfl (hb hby d26_1)
  obtain ⟨cl2, Ar2, q2, S2, M2, H2, G2⟩ := id Vt
  obtain ⟨T3, X3, e3, st3⟩ := getF X1 hx hZ hown (host := "") (Or.inl (hw _ (List.mem_of_getElem? (i := 106) rfl))) Via.refl e1 Fo (g := (mkF m 6 #[.val (.ref b), .val (.int (Int32.ofNat mc)), .unset] [(.ref b), (.int (Int32.ofNat L))])) rfl rfl (hb hby d26_6)
  have c4 : Steps p.tables e below S0 (T3.setTop (mkF m 10 #[.val (.ref b), .val (.int (Int32.ofNat mc)), .unset] [(.int ((Int32.ofNat L) >>> ((0 : Int32) &&& 31)))])) := c0.trans (by
    refine XS.aloadN X0.here hx rfl (hb hby d26_0) rfl rfl ?_
    refine st1 _ ?_
    refine X1.arraylength hx (by rw [show T1.heap = h0 from e1]; exact Ar2.1) (State.isArrayOf_alike (hZ).alike Ar2.2.1) (g := (mkF m 4 #[.val (.ref b), .val (.int (Int32.ofNat mc)), .unset] [(.ref t)])) rfl rfl (hb hby d26_4) _ ?_
    rw [len_of S2 M2]
    refine XS.aloadN X1.here hx rfl (hb hby d26_5) rfl rfl ?_
    refine st3 _ ?_
    show Steps p.tables e below (T3.setTop (mkF m 9 #[.val (.ref b), .val (.int (Int32.ofNat mc)), .unset] [(.int (0 : Int32)), (.int (Int32.ofNat L))])) _
    refine XS.ishr X3.here hx rfl (hb hby d26_9) rfl ?_
    exact Steps.refl _)
  have eq5 : ((Int32.ofNat L) >>> ((0 : Int32) &&& 31)) = (Int32.ofNat L) := own_sh0 _
  have c5 : Steps p.tables e below S0 (T3.setTop (mkF m 10 #[.val (.ref b), .val (.int (Int32.ofNat mc)), .unset] [(.int (Int32.ofNat L))])) := by have q := c4; rw [eq5] at q; exact q
  have c6 : Steps p.tables e below S0 (T3.setTop (mkF m 38 #[.val (.ref b), .val (.int (Int32.ofNat mc)), .val (.int (Int32.ofNat L))] [])) := c5.trans (by
    refine XS.istoreN X3.here hx rfl (hb hby d26_10) rfl (l' := #[.val (.ref b), .val (.int (Int32.ofNat mc)), .val (.int (Int32.ofNat L))]) rfl ?_
    refine XS.iloadN X3.here hx rfl (hb hby d26_11) rfl ?_
    refine XS.iloadN X3.here hx rfl (hb hby d26_12) rfl ?_
    refine XS.isub X3.here hx rfl (hb hby d26_13) rfl ?_
    refine XS.ifYes X3.here hx rfl (pc0 := 14) (pc' := 38) rfl (hb hby d26_14) rfl ((if0 _ _).trans (flt (own_sub0 hm (by omega))).2.2.2) (by decide) (by decide) ?_
    exact Steps.refl _)
  refine ⟨T3, none, _, _, _, X3, by decide, by decide, (fun _ => rfl), N0, ?_, fun fs hr => ?_⟩
  · rw [e3]
    exact ⟨rfl, rfl⟩
  · exact c6.trans (X3.returnOut hx hret (hb hby d26_38) hr)
set_option maxRecDepth 65536 in
set_option maxHeartbeats 40000000 in
theorem rmEnsG (l : Launch) (Z : State) (a0 : Array Value) (hw : ∀ d ∈ tables_1, d.before a0 Z = true) (b t : Addr) (kb : ClassId) (L : Nat) (bs : List Int32) (mc : Nat) (h0 : Heap) (O0 : Old Z Z.heap.size h0) (hsb : own_SB Z h0 b t kb L bs) (hm : L < mc) (hm4 : L + max (mc - L) (L + 2) ≤ 12) :
    own_NC l Z (⟨"java/lang/AbstractStringBuilder", "ensureCapacityInternal", "(I)V"⟩ : MethodName) jdk_68_method_9_code 3 none ({ frames := 3, cells := 1, slots := 12, locals := 55 } : Room) #[(.ref b), (.int (Int32.ofNat mc))] h0 (fun v h => v = none ∧ ∃ (t2 : Addr) (kb2 : ClassId), own_SB Z h b t2 kb2 (L + max (mc - L) (L + 2)) bs ∧ Keep h0 h [b] ∧ h0.size ≤ t2) := by
  refine own_nc (plainFor_of_name (by first | (simp [plainName, overriddenIn]; done) | decide +kernel)) ?_
  intro p e s m below meth c s₁ S0 X0 hx hby hml hret hnm hown hZ e0 cc
  have N0 := Fr.nil Z.heap.size
  have c0 : Steps p.tables e below S0 (s₁.setTop (mkF m 0 #[.val (.ref b), .val (.int (Int32.ofNat mc)), .unset] [])) := cc.trans (XT.entry rfl)
  obtain ⟨Eb, Fc, Fo, Fv, Vt, Et, hle, hL4, hbt, gb, gt⟩ := id hsb
  obtain ⟨T1, X1, e1, st1⟩ := getF X0 hx hZ hown (host := "") (Or.inl (hw _ (List.mem_of_getElem? (i := 104) rfl))) Via.refl e0 Fv (g := (mkF m 1 #[.val (.ref b), .val (.int (Int32.ofNat mc)), .unset] [(.ref b)])) rfl rfl (hb hby d26_1)
  obtain ⟨cl2, Ar2, q2, S2, M2, H2, G2⟩ := id Vt
  obtain ⟨T3, X3, e3, st3⟩ := getF X1 hx hZ hown (host := "") (Or.inl (hw _ (List.mem_of_getElem? (i := 106) rfl))) Via.refl e1 Fo (g := (mkF m 6 #[.val (.ref b), .val (.int (Int32.ofNat mc)), .unset] [(.ref b), (.int (Int32.ofNat L))])) rfl rfl (hb hby d26_6)
  have c4 : Steps p.tables e below S0 (T3.setTop (mkF m 10 #[.val (.ref b), .val (.int (Int32.ofNat mc)), .unset] [(.int ((Int32.ofNat L) >>> ((0 : Int32) &&& 31)))])) := c0.trans (by
    refine XS.aloadN X0.here hx rfl (hb hby d26_0) rfl rfl ?_
    refine st1 _ ?_
    refine X1.arraylength hx (by rw [show T1.heap = h0 from e1]; exact Ar2.1) (State.isArrayOf_alike (hZ).alike Ar2.2.1) (g := (mkF m 4 #[.val (.ref b), .val (.int (Int32.ofNat mc)), .unset] [(.ref t)])) rfl rfl (hb hby d26_4) _ ?_
    rw [len_of S2 M2]
    refine XS.aloadN X1.here hx rfl (hb hby d26_5) rfl rfl ?_
    refine st3 _ ?_
    show Steps p.tables e below (T3.setTop (mkF m 9 #[.val (.ref b), .val (.int (Int32.ofNat mc)), .unset] [(.int (0 : Int32)), (.int (Int32.ofNat L))])) _
    refine XS.ishr X3.here hx rfl (hb hby d26_9) rfl ?_
    exact Steps.refl _)
  have eq5 : ((Int32.ofNat L) >>> ((0 : Int32) &&& 31)) = (Int32.ofNat L) := own_sh0 _
  have c5 : Steps p.tables e below S0 (T3.setTop (mkF m 10 #[.val (.ref b), .val (.int (Int32.ofNat mc)), .unset] [(.int (Int32.ofNat L))])) := by have q := c4; rw [eq5] at q; exact q
  obtain ⟨T6, X6, e6, st6⟩ := getF X3 hx hZ hown (host := "") (Or.inl (hw _ (List.mem_of_getElem? (i := 104) rfl))) Via.refl e3 Fv (g := (mkF m 19 #[.val (.ref b), .val (.int (Int32.ofNat mc)), .val (.int (Int32.ofNat L))] [(.ref b), (.ref b)])) rfl rfl (hb hby d26_19)
  have c7 : Steps p.tables e below S0 (T6.setTop (mkF m 24 #[.val (.ref b), .val (.int (Int32.ofNat mc)), .val (.int (Int32.ofNat L))] [(.int (Int32.ofNat mc)), (.ref b), (.ref t), (.ref b)])) := c5.trans (by
    refine XS.istoreN X3.here hx rfl (hb hby d26_10) rfl (l' := #[.val (.ref b), .val (.int (Int32.ofNat mc)), .val (.int (Int32.ofNat L))]) rfl ?_
    refine XS.iloadN X3.here hx rfl (hb hby d26_11) rfl ?_
    refine XS.iloadN X3.here hx rfl (hb hby d26_12) rfl ?_
    refine XS.isub X3.here hx rfl (hb hby d26_13) rfl ?_
    refine XS.ifNo X3.here hx rfl (hb hby d26_14) rfl ((if0 _ _).trans (tlt (own_sub1 hm (by omega))).2.2.2) ?_
    refine XS.aloadN X3.here hx rfl (hb hby d26_17) rfl rfl ?_
    refine XS.aloadN X3.here hx rfl (hb hby d26_18) rfl rfl ?_
    refine st6 _ ?_
    show Steps p.tables e below (T6.setTop (mkF m 22 #[.val (.ref b), .val (.int (Int32.ofNat mc)), .val (.int (Int32.ofNat L))] [(.ref t), (.ref b)])) _
    refine XS.aloadN X6.here hx rfl (hb hby d26_22) rfl rfl ?_
    refine XS.iloadN X6.here hx rfl (hb hby d26_23) rfl ?_
    exact Steps.refl _)
  obtain ⟨v8, T8, L8, X8, ⟨N8', rfl, e8⟩, c8'⟩ := own_virt X6 hx hml hZ hown (hw _ (List.mem_of_getElem? (i := 210) rfl)) (own_decl (hw _ (List.mem_of_getElem? (i := 211) rfl)) (hw _ (List.mem_of_getElem? (i := 214) rfl))) (hw _ (List.mem_of_getElem? (i := 213) rfl)) (hw _ (List.mem_of_getElem? (i := 211) rfl)) (hw _ (List.mem_of_getElem? (i := 213) rfl)) (by decide) (kc := 0) (ks := 0) (h := h0) (W := 2) (b := b) (argsL := [(.int (Int32.ofNat mc))]) (rest := [(.ref t), (.ref b)]) (own_pay (W := 2) (rmNC l Z a0 hw b t kb L bs mc h0 O0 hsb hm (by omega)) hZ (hw _ (List.mem_of_getElem? (i := 214) rfl)) (hw _ (List.mem_of_getElem? (i := 100) rfl)) (by decide) (by decide)) Eb c7 (lenOf pd_2 rfl) rfl (hb hby d26_24) e6
  have N8 := Fr.app N0 N8'
  have c8 : Steps p.tables e below S0 (T8.setTop (mkF m 27 #[.val (.ref b), .val (.int (Int32.ofNat mc)), .val (.int (Int32.ofNat L))] [(.int (Int32.ofNat (L + max (mc - L) (L + 2)))), (.ref t), (.ref b)])) := c8'
  obtain ⟨T9, X9, e9, st9⟩ := getF X8 hx hZ hown (host := "") (Or.inl (hw _ (List.mem_of_getElem? (i := 106) rfl))) Via.refl e8 Fo (g := (mkF m 28 #[.val (.ref b), .val (.int (Int32.ofNat mc)), .val (.int (Int32.ofNat L))] [(.ref b), (.int (Int32.ofNat (L + max (mc - L) (L + 2)))), (.ref t), (.ref b)])) rfl rfl (hb hby d26_28)
  have c10 : Steps p.tables e below S0 (T9.setTop (mkF m 32 #[.val (.ref b), .val (.int (Int32.ofNat mc)), .val (.int (Int32.ofNat L))] [(.int ((Int32.ofNat (L + max (mc - L) (L + 2))) <<< ((0 : Int32) &&& 31))), (.ref t), (.ref b)])) := c8.trans (by
    refine XS.aloadN X8.here hx rfl (hb hby d26_27) rfl rfl ?_
    refine st9 _ ?_
    refine XS.ishl X9.here hx rfl (hb hby d26_31) rfl ?_
    exact Steps.refl _)
  have eq11 : ((Int32.ofNat (L + max (mc - L) (L + 2))) <<< ((0 : Int32) &&& 31)) = (Int32.ofNat (L + max (mc - L) (L + 2))) := own_sl0 _
  have c11 : Steps p.tables e below S0 (T9.setTop (mkF m 32 #[.val (.ref b), .val (.int (Int32.ofNat mc)), .val (.int (Int32.ofNat L))] [(.int (Int32.ofNat (L + max (mc - L) (L + 2)))), (.ref t), (.ref b)])) := by have q := c10; rw [eq11] at q; exact q
  obtain ⟨v12, T12, L12, X12, ⟨N12', t12, kb12, rfl, K12, lo12, V12, Et12⟩, c12'⟩ := own_stat X9 hx hml hZ hown (hw _ (List.mem_of_getElem? (i := 225) rfl)) (hw _ (List.mem_of_getElem? (i := 226) rfl)) (hw _ (List.mem_of_getElem? (i := 198) rfl)) (hw _ (List.mem_of_getElem? (i := 227) rfl)) (by decide) (kc := 1) (ks := 12) (h := h0) (W := 1) (argsL := [(.ref t), (.int (Int32.ofNat (L + max (mc - L) (L + 2))))]) (rest := [(.ref b)]) (own_pay (W := 1) (rmCO l Z a0 hw t kb L (L + max (mc - L) (L + 2)) bs h0 O0 Vt hle (by omega) hm4) hZ (hw _ (List.mem_of_getElem? (i := 227) rfl)) (hw _ (List.mem_of_getElem? (i := 198) rfl)) (by decide) (by decide)) c11 (lenOf pd_3 rfl) rfl (hb hby d26_32) e9
  have N12 := Fr.app N8 N12'
  have c12 : Steps p.tables e below S0 (T12.setTop (mkF m 35 #[.val (.ref b), .val (.int (Int32.ofNat mc)), .val (.int (Int32.ofNat L))] [(.ref t12), (.ref b)])) := c12'
  have gt12 : Z.heap.size ≤ t12 := Nat.le_trans O0.2.1 lo12
  obtain ⟨T13, h13, X13, e13, W13, st13⟩ := putF X12 hx hZ hown (host := "") (Or.inl (hw _ (List.mem_of_getElem? (i := 104) rfl))) Via.refl rfl (Fv.keep K12 nin0) (Eb.keep K12) (Or.inl (hw _ (List.mem_of_getElem? (i := 105) rfl))) (hw _ (List.mem_of_getElem? (i := 91) rfl)) (ty := (.array .byte)) (by decide) rfl rfl (g := (mkF m 35 #[.val (.ref b), .val (.int (Int32.ofNat mc)), .val (.int (Int32.ofNat L))] [(.ref t12), (.ref b)])) rfl rfl (hb hby d26_35)
  have N13 := Fr.snoc X13 N12 gb
  have Fw13 := (Fv.keep K12 nin0).same W13
  have c14 : Steps p.tables e below S0 (T13.setTop (mkF m 38 #[.val (.ref b), .val (.int (Int32.ofNat mc)), .val (.int (Int32.ofNat L))] [])) := c12.trans (by
    refine st13 _ ?_
    exact Steps.refl _)
  refine ⟨T13, none, _, _, _, X13, by decide, by decide, (fun _ => rfl), N13, ?_, fun fs hr => ?_⟩
  · rw [e13]
    exact ⟨rfl, t12, kb12, ⟨((Eb.keep K12).wr W13), ((Fc.keep K12 nin0).other W13 (Or.inr (slot_ne (Or.inl (hw _ (List.mem_of_getElem? (i := 131) rfl))) (Or.inl (hw _ (List.mem_of_getElem? (i := 105) rfl))) (by decide) (t := .int) (t' := (.array .byte)) (by decide) (by decide)))), ((Fo.keep K12 nin0).other W13 (Or.inr (slot_ne (Or.inl (hw _ (List.mem_of_getElem? (i := 107) rfl))) (Or.inl (hw _ (List.mem_of_getElem? (i := 105) rfl))) (by decide) (t := .byte) (t' := (.array .byte)) (by decide) (by decide)))), Fw13, (V12.other W13 (Ne.symm (Nat.ne_of_lt (Nat.lt_of_lt_of_le Eb.lt lo12)))), (Et12.wr W13), (by omega), (by omega), (Nat.ne_of_lt (Nat.lt_of_lt_of_le Eb.lt lo12)), gb, gt12⟩, (((Keep.refl h0 [b]).trans K12 all0).wr W13 (Or.inl (List.mem_of_getElem? (i := 0) rfl))), (Nat.le_trans (Keep.refl h0 []).1 lo12)⟩
  · exact c14.trans (X13.returnOut hx hret (hb hby d26_38) hr)
set_option maxRecDepth 65536 in
set_option maxHeartbeats 40000000 in
theorem rmAIL (l : Launch) (Z : State) (a0 : Array Value) (hw : ∀ d ∈ tables_1, d.before a0 Z = true) (b : Addr) (z : Int32) (fm : Value) (h0 : Heap) (O0 : Old Z Z.heap.size h0) (Fo : Fld Z h0 b "java/lang/AbstractStringBuilder" "coder" "B" (.int (0 : Int32))) (SC : Sta Z Z.heap "java/lang/String" "COMPACT_STRINGS" "Z" (.int z)) (hz : ¬ z = 0) (SF : Sta Z Z.heap "jdk/internal/util/Preconditions" "SIOOBE_FORMATTER" "Ljava/util/function/BiFunction;" fm) (hfm : fm.isRef = true) :
    own_NC l Z (⟨"java/lang/AbstractStringBuilder", "isLatin1", "()Z"⟩ : MethodName) jdk_68_method_68_code 1 (some .boolean) ({ frames := 0, cells := 0, slots := 0, locals := 0 } : Room) #[(.ref b)] h0 (fun v h => v = some (.int (1 : Int32)) ∧ h = h0) := by
  refine own_nc (plainFor_of_name (by first | (simp [plainName, overriddenIn]; done) | decide +kernel)) ?_
  intro p e s m below meth c s₁ S0 X0 hx hby hml hret hnm hown hZ e0 cc
  have N0 := Fr.nil Z.heap.size
  have c0 : Steps p.tables e below S0 (s₁.setTop (mkF m 0 #[.val (.ref b)] [])) := cc.trans (XT.entry rfl)
  obtain ⟨T1, X1, e1, st1⟩ := getS2 X0 hx hZ hown (host := "") (Or.inl (hw _ (List.mem_of_getElem? (i := 103) rfl))) Via.refl e0 (SC.ext O0.2) (g := (mkF m 0 #[.val (.ref b)] [])) rfl (hb hby d28_0)
  obtain ⟨T2, X2, e2, st2⟩ := getF X1 hx hZ hown (host := "") (Or.inl (hw _ (List.mem_of_getElem? (i := 106) rfl))) Via.refl e1 Fo (g := (mkF m 7 #[.val (.ref b)] [(.ref b)])) rfl rfl (hb hby d28_7)
  have c3 : Steps p.tables e below S0 (T2.setTop (mkF m 18 #[.val (.ref b)] [(.int (1 : Int32))])) := c0.trans (by
    refine st1 _ ?_
    refine XS.ifNo X1.here hx rfl (hb hby d28_3) rfl ((if0 _ _).trans (feq hz).1) ?_
    refine XS.aloadN X1.here hx rfl (hb hby d28_6) rfl rfl ?_
    refine st2 _ ?_
    show Steps p.tables e below (T2.setTop (mkF m 10 #[.val (.ref b)] [(.int (0 : Int32))])) _
    refine XS.ifNo X2.here hx rfl (hb hby d28_10) rfl ((if0 _ _).trans (teq (by decide : (0 : Int32) = (0 : Int32))).2) ?_
    refine XS.iconst X2.here hx rfl (hb hby d28_13) ?_
    refine XS.goto X2.here hx rfl (pc0 := 14) (pc' := 18) rfl (hb hby d28_14) (by decide) (by decide) ?_
    exact Steps.refl _)
  refine ⟨T2, (some (.int (1 : Int32))), _, _, _, X2, by decide, by decide, (fun q => by cases q), N0, ?_, fun fs hr => ?_⟩
  · rw [e2]
    exact ⟨rfl, rfl⟩
  · exact c3.trans (retN X2 hx (t := .boolean) hret (by simp) (hb hby d28_18) hr)
set_option maxRecDepth 65536 in
set_option maxHeartbeats 40000000 in
theorem rmCanC (l : Launch) (Z : State) (a0 : Array Value) (hw : ∀ d ∈ tables_1, d.before a0 Z = true) (k : Int32) (h0 : Heap) (O0 : Old Z Z.heap.size h0) (hk : own_B k) :
    own_NC l Z (⟨"java/lang/StringLatin1", "canEncode", "(C)Z"⟩ : MethodName) jdk_43_method_3_code 1 (some .boolean) ({ frames := 0, cells := 0, slots := 0, locals := 0 } : Room) #[(.int k)] h0 (fun v h => v = some (.int (1 : Int32)) ∧ h = h0) := by
  refine own_nc (plainFor_of_name (by first | (simp [plainName, overriddenIn]; done) | decide +kernel)) ?_
  intro p e s m below meth c s₁ S0 X0 hx hby hml hret hnm hown hZ e0 cc
  have N0 := Fr.nil Z.heap.size
  have c0 : Steps p.tables e below S0 (s₁.setTop (mkF m 0 #[.val (.int k)] [])) := cc.trans (XT.entry rfl)
  have c1 : Steps p.tables e below S0 (s₁.setTop (mkF m 12 #[.val (.int k)] [(.int (1 : Int32))])) := c0.trans (by
    refine XS.iloadN X0.here hx rfl (hb hby d32_0) rfl ?_
    refine XS.sipush X0.here hx rfl (hb hby d32_1) ?_
    refine XS.icmpNo X0.here hx rfl (hb hby d32_4) rfl (flt hk.rng.2).2.2.1 ?_
    refine XS.iconst X0.here hx rfl (hb hby d32_7) ?_
    refine XS.goto X0.here hx rfl (pc0 := 8) (pc' := 12) rfl (hb hby d32_8) (by decide) (by decide) ?_
    exact Steps.refl _)
  refine ⟨s₁, (some (.int (1 : Int32))), _, _, _, X0, by decide, by decide, (fun q => by cases q), N0, ?_, fun fs hr => ?_⟩
  · rw [e0]
    exact ⟨rfl, rfl⟩
  · exact c1.trans (retN X0 hx (t := .boolean) hret (by simp) (hb hby d32_12) hr)
set_option maxRecDepth 65536 in
set_option maxHeartbeats 40000000 in
theorem rmACn (l : Launch) (Z : State) (a0 : Array Value) (hw : ∀ d ∈ tables_1, d.before a0 Z = true) (b t : Addr) (kb : ClassId) (L : Nat) (bs : List Int32) (ch : Int32) (z : Int32) (fm : Value) (h0 : Heap) (O0 : Old Z Z.heap.size h0) (hsb : own_SB Z h0 b t kb L bs) (hc : own_B ch) (hf : bs.length < L) (SC : Sta Z Z.heap "java/lang/String" "COMPACT_STRINGS" "Z" (.int z)) (hz : ¬ z = 0) (SF : Sta Z Z.heap "jdk/internal/util/Preconditions" "SIOOBE_FORMATTER" "Ljava/util/function/BiFunction;" fm) (hfm : fm.isRef = true) :
    own_NC l Z (⟨"java/lang/AbstractStringBuilder", "append", "(C)Ljava/lang/AbstractStringBuilder;"⟩ : MethodName) jdk_68_method_31_code 2 (some (.object "java/lang/AbstractStringBuilder")) ({ frames := 4, cells := 1, slots := 12, locals := 69 } : Room) #[(.ref b), (.int ch)] h0 (fun v h => v = some (.ref b) ∧ ∃ (t2 : Addr) (kb2 : ClassId) (L2 : Nat), own_SB Z h b t2 kb2 L2 (bs ++ [ch]) ∧ Keep h0 h [b, t] ∧ (t2 = t ∨ h0.size ≤ t2) ∧ (L2 = L ∨ (bs.length = L ∧ L2 = L + (L + 2)))) := by
  refine own_nc (plainFor_of_name (by first | (simp [plainName, overriddenIn]; done) | decide +kernel)) ?_
  intro p e s m below meth c s₁ S0 X0 hx hby hml hret hnm hown hZ e0 cc
  have N0 := Fr.nil Z.heap.size
  have c0 : Steps p.tables e below S0 (s₁.setTop (mkF m 0 #[.val (.ref b), .val (.int ch)] [])) := cc.trans (XT.entry rfl)
  obtain ⟨Eb, Fc, Fo, Fv, Vt, Et, hle, hL4, hbt, gb, gt⟩ := id hsb
  obtain ⟨T1, X1, e1, st1⟩ := getF X0 hx hZ hown (host := "") (Or.inl (hw _ (List.mem_of_getElem? (i := 130) rfl))) Via.refl e0 Fc (g := (mkF m 2 #[.val (.ref b), .val (.int ch)] [(.ref b), (.ref b)])) rfl rfl (hb hby d31_2)
  have c2 : Steps p.tables e below S0 (T1.setTop (mkF m 7 #[.val (.ref b), .val (.int ch)] [(.int ((Int32.ofNat bs.length) + (1 : Int32))), (.ref b)])) := c0.trans (by
    refine XS.aloadN X0.here hx rfl (hb hby d31_0) rfl rfl ?_
    refine XS.aloadN X0.here hx rfl (hb hby d31_1) rfl rfl ?_
    refine st1 _ ?_
    refine XS.iconst X1.here hx rfl (hb hby d31_5) ?_
    refine XS.iadd X1.here hx rfl (hb hby d31_6) rfl ?_
    exact Steps.refl _)
  have eq3 : ((Int32.ofNat bs.length) + (1 : Int32)) = (Int32.ofNat (bs.length + 1)) := own_succ _
  have c3 : Steps p.tables e below S0 (T1.setTop (mkF m 7 #[.val (.ref b), .val (.int ch)] [(.int (Int32.ofNat (bs.length + 1))), (.ref b)])) := by have q := c2; rw [eq3] at q; exact q
  obtain ⟨v4, T4, L4, X4, ⟨N4', rfl, e4⟩, c4'⟩ := own_virt X1 hx hml hZ hown (hw _ (List.mem_of_getElem? (i := 132) rfl)) (own_decl (hw _ (List.mem_of_getElem? (i := 133) rfl)) (hw _ (List.mem_of_getElem? (i := 136) rfl))) (hw _ (List.mem_of_getElem? (i := 135) rfl)) (hw _ (List.mem_of_getElem? (i := 133) rfl)) (hw _ (List.mem_of_getElem? (i := 135) rfl)) (by decide) (kc := 0) (ks := 0) (h := h0) (W := 0) (b := b) (argsL := [(.int (Int32.ofNat (bs.length + 1)))]) (rest := []) (own_pay (W := 0) (rmEnsN l Z a0 hw b t kb L bs (bs.length + 1) h0 O0 hsb (by omega)) hZ (hw _ (List.mem_of_getElem? (i := 136) rfl)) (hw _ (List.mem_of_getElem? (i := 100) rfl)) (by decide) (by decide)) Eb c3 (lenOf pd_4 rfl) rfl (hb hby d31_7) e1
  have N4 := Fr.app N0 N4'
  have c4 : Steps p.tables e below S0 (T4.setTop (mkF m 10 #[.val (.ref b), .val (.int ch)] [])) := c4'
  have c5 : Steps p.tables e below S0 (T4.setTop (mkF m 11 #[.val (.ref b), .val (.int ch)] [(.ref b)])) := c4.trans (by
    refine XS.aloadN X4.here hx rfl (hb hby d31_10) rfl rfl ?_
    exact Steps.refl _)
  obtain ⟨v6, T6, L6, X6, ⟨N6', rfl, e6⟩, c6'⟩ := own_virt X4 hx hml hZ hown (hw _ (List.mem_of_getElem? (i := 143) rfl)) (hw _ (List.mem_of_getElem? (i := 144) rfl)) (hw _ (List.mem_of_getElem? (i := 146) rfl)) (hw _ (List.mem_of_getElem? (i := 145) rfl)) (hw _ (List.mem_of_getElem? (i := 146) rfl)) (by decide) (kc := 0) (ks := 0) (h := h0) (W := 0) (b := b) (argsL := []) (rest := []) (own_pay (W := 0) (rmAIL l Z a0 hw b z fm h0 O0 Fo SC hz SF hfm) hZ (hw _ (List.mem_of_getElem? (i := 147) rfl)) (hw _ (List.mem_of_getElem? (i := 100) rfl)) (by decide) (by decide)) Eb c5 (lenOf pd_5 rfl) rfl (hb hby d31_11) e4
  have N6 := Fr.app N4 N6'
  have c6 : Steps p.tables e below S0 (T6.setTop (mkF m 14 #[.val (.ref b), .val (.int ch)] [(.int (1 : Int32))])) := c6'
  have c7 : Steps p.tables e below S0 (T6.setTop (mkF m 18 #[.val (.ref b), .val (.int ch)] [(.int ch)])) := c6.trans (by
    refine XS.ifNo X6.here hx rfl (hb hby d31_14) rfl ((if0 _ _).trans (feq (by decide : ¬ ((1 : Int32) = (0 : Int32)))).1) ?_
    refine XS.iloadN X6.here hx rfl (hb hby d31_17) rfl ?_
    exact Steps.refl _)
  obtain ⟨v8, T8, L8, X8, ⟨N8', rfl, e8⟩, c8'⟩ := own_stat X6 hx hml hZ hown (hw _ (List.mem_of_getElem? (i := 167) rfl)) (hw _ (List.mem_of_getElem? (i := 168) rfl)) (hw _ (List.mem_of_getElem? (i := 77) rfl)) (hw _ (List.mem_of_getElem? (i := 169) rfl)) (by decide) (kc := 0) (ks := 0) (h := h0) (W := 0) (argsL := [(.int ch)]) (rest := []) (own_pay (W := 0) (rmCanC l Z a0 hw ch h0 O0 hc) hZ (hw _ (List.mem_of_getElem? (i := 169) rfl)) (hw _ (List.mem_of_getElem? (i := 77) rfl)) (by decide) (by decide)) c7 (lenOf pd_6 rfl) rfl (hb hby d31_18) e6
  have N8 := Fr.app N6 N8'
  have c8 : Steps p.tables e below S0 (T8.setTop (mkF m 21 #[.val (.ref b), .val (.int ch)] [(.int (1 : Int32))])) := c8'
  obtain ⟨T9, X9, e9, st9⟩ := getF X8 hx hZ hown (host := "") (Or.inl (hw _ (List.mem_of_getElem? (i := 104) rfl))) Via.refl e8 Fv (g := (mkF m 25 #[.val (.ref b), .val (.int ch)] [(.ref b)])) rfl rfl (hb hby d31_25)
  obtain ⟨T10, X10, e10, st10⟩ := getF X9 hx hZ hown (host := "") (Or.inl (hw _ (List.mem_of_getElem? (i := 130) rfl))) Via.refl e9 Fc (g := (mkF m 30 #[.val (.ref b), .val (.int ch)] [(.ref b), (.ref b), (.ref t)])) rfl rfl (hb hby d31_30)
  have c11 : Steps p.tables e below S0 (T10.setTop (mkF m 36 #[.val (.ref b), .val (.int ch)] [(.int ((Int32.ofNat bs.length) + (1 : Int32))), (.ref b), (.int (Int32.ofNat bs.length)), (.ref t)])) := c8.trans (by
    refine XS.ifNo X8.here hx rfl (hb hby d31_21) rfl ((if0 _ _).trans (feq (by decide : ¬ ((1 : Int32) = (0 : Int32)))).1) ?_
    refine XS.aloadN X8.here hx rfl (hb hby d31_24) rfl rfl ?_
    refine st9 _ ?_
    refine XS.aloadN X9.here hx rfl (hb hby d31_28) rfl rfl ?_
    refine XS.dup X9.here hx rfl (hb hby d31_29) rfl rfl ?_
    refine st10 _ ?_
    show Steps p.tables e below (T10.setTop (mkF m 33 #[.val (.ref b), .val (.int ch)] [(.int (Int32.ofNat bs.length)), (.ref b), (.ref t)])) _
    refine XS.dupX1 X10.here hx rfl (hb hby d31_33) rfl rfl rfl ?_
    refine XS.iconst X10.here hx rfl (hb hby d31_34) ?_
    refine XS.iadd X10.here hx rfl (hb hby d31_35) rfl ?_
    exact Steps.refl _)
  have eq12 : ((Int32.ofNat bs.length) + (1 : Int32)) = (Int32.ofNat (bs ++ [ch]).length) := own_len1 _ _
  have c12 : Steps p.tables e below S0 (T10.setTop (mkF m 36 #[.val (.ref b), .val (.int ch)] [(.int (Int32.ofNat (bs ++ [ch]).length)), (.ref b), (.int (Int32.ofNat bs.length)), (.ref t)])) := by have q := c11; rw [eq12] at q; exact q
  obtain ⟨T13, h13, X13, e13, W13, st13⟩ := putF X10 hx hZ hown (host := "") (Or.inl (hw _ (List.mem_of_getElem? (i := 130) rfl))) Via.refl e10 Fc Eb (Or.inl (hw _ (List.mem_of_getElem? (i := 131) rfl))) (hw _ (List.mem_of_getElem? (i := 91) rfl)) (ty := .int) (by decide) rfl rfl (g := (mkF m 36 #[.val (.ref b), .val (.int ch)] [(.int (Int32.ofNat (bs ++ [ch]).length)), (.ref b), (.int (Int32.ofNat bs.length)), (.ref t)])) rfl rfl (hb hby d31_36)
  have N13 := Fr.snoc X13 N8 gb
  have Fw13 := Fc.same W13
  have c14 : Steps p.tables e below S0 (T13.setTop (mkF m 41 #[.val (.ref b), .val (.int ch)] [(.int (ch.toInt8.toInt32)), (.int (Int32.ofNat bs.length)), (.ref t)])) := c12.trans (by
    refine st13 _ ?_
    refine XS.iloadN X13.here hx rfl (hb hby d31_39) rfl ?_
    refine XS.i2b X13.here hx rfl (hb hby d31_40) rfl ?_
    exact Steps.refl _)
  have Vp15 : Arv Z h13 t kb .byte (Int32.ofNat L) (own_bv bs ++ [.int (0 : Int32)]) (.int (0 : Int32)) := (Vt.other W13 (Ne.symm hbt)).pad (pad_rep _ _ 1)
  obtain ⟨cl16, Ar16, q16, S16, M16, H16, G16⟩ := id Vp15
  have hin16 : ¬ ((Int32.ofNat bs.length) < 0 ∨ cl16.slots.size ≤ ((Int32.ofNat bs.length)).toNatClampNeg) := inb_of S16 ⟨own_nneg (by omega), (own_lt32 (by omega) (by omega)).mpr (by omega)⟩
  obtain ⟨T16, h16, X16, e16, W16, st16⟩ := stB X13 hx hZ e13 Ar16 (j := (Int32.ofNat bs.length)) hin16 (g := (mkF m 41 #[.val (.ref b), .val (.int ch)] [(.int (ch.toInt8.toInt32)), (.int (Int32.ofNat bs.length)), (.ref t)])) rfl rfl (hb hby d31_41)
  have V16 := Arv.set Ar16 q16 S16 M16 H16 G16 (fits_nar_byte _) W16 bs.length (own_clamp (by omega)) (by simp [own_bvL])
  have N16 := Fr.snoc X16 N13 gt
  rw [own_b2] at V16
  rw [own_bvSet] at V16
  have c17 : Steps p.tables e below S0 (T16.setTop (mkF m 76 #[.val (.ref b), .val (.int ch)] [(.ref b)])) := c14.trans (by
    refine st16 _ ?_
    refine XS.goto X16.here hx rfl (pc0 := 42) (pc' := 75) rfl (hb hby d31_42) (by decide) (by decide) ?_
    refine XS.aloadN X16.here hx rfl (hb hby d31_75) rfl rfl ?_
    exact Steps.refl _)
  refine ⟨T16, (some (.ref b)), _, _, _, X16, by decide, by decide, (fun q => by cases q), N16, ?_, fun fs hr => ?_⟩
  · rw [e16]
    exact ⟨rfl, t, kb, L, ⟨((Eb.wr W13).wr W16), (Fw13.other W16 (Or.inl hbt)), ((Fo.other W13 (Or.inr (slot_ne (Or.inl (hw _ (List.mem_of_getElem? (i := 107) rfl))) (Or.inl (hw _ (List.mem_of_getElem? (i := 131) rfl))) (by decide) (t := .byte) (t' := .int) (by decide) (by decide)))).other W16 (Or.inl hbt)), ((Fv.other W13 (Or.inr (slot_ne (Or.inl (hw _ (List.mem_of_getElem? (i := 105) rfl))) (Or.inl (hw _ (List.mem_of_getElem? (i := 131) rfl))) (by decide) (t := (.array .byte)) (t' := .int) (by decide) (by decide)))).other W16 (Or.inl hbt)), V16, ((Et.wr W13).wr W16), (by simp; omega), (by omega), hbt, gb, gt⟩, (((Keep.refl h0 [b, t]).wr W13 (Or.inl (List.mem_of_getElem? (i := 0) rfl))).wr W16 (Or.inl (List.mem_of_getElem? (i := 1) rfl))), Or.inl rfl, Or.inl rfl⟩
  · exact own_retR X16 hx c17 hret rfl rfl (hb hby d31_76) hr
set_option maxRecDepth 65536 in
set_option maxHeartbeats 40000000 in
theorem rmACg (l : Launch) (Z : State) (a0 : Array Value) (hw : ∀ d ∈ tables_1, d.before a0 Z = true) (b t : Addr) (kb : ClassId) (L : Nat) (bs : List Int32) (ch : Int32) (z : Int32) (fm : Value) (h0 : Heap) (O0 : Old Z Z.heap.size h0) (hsb : own_SB Z h0 b t kb L bs) (hc : own_B ch) (hg : bs.length = L) (hcap : L + (L + 2) ≤ 12) (SC : Sta Z Z.heap "java/lang/String" "COMPACT_STRINGS" "Z" (.int z)) (hz : ¬ z = 0) (SF : Sta Z Z.heap "jdk/internal/util/Preconditions" "SIOOBE_FORMATTER" "Ljava/util/function/BiFunction;" fm) (hfm : fm.isRef = true) :
    own_NC l Z (⟨"java/lang/AbstractStringBuilder", "append", "(C)Ljava/lang/AbstractStringBuilder;"⟩ : MethodName) jdk_68_method_31_code 2 (some (.object "java/lang/AbstractStringBuilder")) ({ frames := 4, cells := 1, slots := 12, locals := 69 } : Room) #[(.ref b), (.int ch)] h0 (fun v h => v = some (.ref b) ∧ ∃ (t2 : Addr) (kb2 : ClassId) (L2 : Nat), own_SB Z h b t2 kb2 L2 (bs ++ [ch]) ∧ Keep h0 h [b, t] ∧ (t2 = t ∨ h0.size ≤ t2) ∧ (L2 = L ∨ (bs.length = L ∧ L2 = L + (L + 2)))) := by
  refine own_nc (plainFor_of_name (by first | (simp [plainName, overriddenIn]; done) | decide +kernel)) ?_
  intro p e s m below meth c s₁ S0 X0 hx hby hml hret hnm hown hZ e0 cc
  have N0 := Fr.nil Z.heap.size
  have c0 : Steps p.tables e below S0 (s₁.setTop (mkF m 0 #[.val (.ref b), .val (.int ch)] [])) := cc.trans (XT.entry rfl)
  obtain ⟨Eb, Fc, Fo, Fv, Vt, Et, hle, hL4, hbt, gb, gt⟩ := id hsb
  obtain ⟨T1, X1, e1, st1⟩ := getF X0 hx hZ hown (host := "") (Or.inl (hw _ (List.mem_of_getElem? (i := 130) rfl))) Via.refl e0 Fc (g := (mkF m 2 #[.val (.ref b), .val (.int ch)] [(.ref b), (.ref b)])) rfl rfl (hb hby d31_2)
  have c2 : Steps p.tables e below S0 (T1.setTop (mkF m 7 #[.val (.ref b), .val (.int ch)] [(.int ((Int32.ofNat bs.length) + (1 : Int32))), (.ref b)])) := c0.trans (by
    refine XS.aloadN X0.here hx rfl (hb hby d31_0) rfl rfl ?_
    refine XS.aloadN X0.here hx rfl (hb hby d31_1) rfl rfl ?_
    refine st1 _ ?_
    refine XS.iconst X1.here hx rfl (hb hby d31_5) ?_
    refine XS.iadd X1.here hx rfl (hb hby d31_6) rfl ?_
    exact Steps.refl _)
  have eq3 : ((Int32.ofNat bs.length) + (1 : Int32)) = (Int32.ofNat (bs.length + 1)) := own_succ _
  have c3 : Steps p.tables e below S0 (T1.setTop (mkF m 7 #[.val (.ref b), .val (.int ch)] [(.int (Int32.ofNat (bs.length + 1))), (.ref b)])) := by have q := c2; rw [eq3] at q; exact q
  obtain ⟨v4, T4, L4, X4, ⟨N4', rfl, t4, kb4, SB4, K4, lo4⟩, c4'⟩ := own_virt X1 hx hml hZ hown (hw _ (List.mem_of_getElem? (i := 132) rfl)) (own_decl (hw _ (List.mem_of_getElem? (i := 133) rfl)) (hw _ (List.mem_of_getElem? (i := 136) rfl))) (hw _ (List.mem_of_getElem? (i := 135) rfl)) (hw _ (List.mem_of_getElem? (i := 133) rfl)) (hw _ (List.mem_of_getElem? (i := 135) rfl)) (by decide) (kc := 1) (ks := 12) (h := h0) (W := 0) (b := b) (argsL := [(.int (Int32.ofNat (bs.length + 1)))]) (rest := []) (own_pay (W := 0) (rmEnsG l Z a0 hw b t kb L bs (bs.length + 1) h0 O0 hsb (by omega) (by omega)) hZ (hw _ (List.mem_of_getElem? (i := 136) rfl)) (hw _ (List.mem_of_getElem? (i := 100) rfl)) (by decide) (by decide)) Eb c3 (lenOf pd_4 rfl) rfl (hb hby d31_7) e1
  have N4 := Fr.app N0 N4'
  have c4 : Steps p.tables e below S0 (T4.setTop (mkF m 10 #[.val (.ref b), .val (.int ch)] [])) := c4'
  obtain ⟨Eb4, Fc4, Fo4, Fv4, Vt4, Et4, hle4, hL44, hbt4, gb4, gt4⟩ := id SB4
  have c5 : Steps p.tables e below S0 (T4.setTop (mkF m 11 #[.val (.ref b), .val (.int ch)] [(.ref b)])) := c4.trans (by
    refine XS.aloadN X4.here hx rfl (hb hby d31_10) rfl rfl ?_
    exact Steps.refl _)
  obtain ⟨v6, T6, L6, X6, ⟨N6', rfl, e6⟩, c6'⟩ := own_virt X4 hx hml hZ hown (hw _ (List.mem_of_getElem? (i := 143) rfl)) (hw _ (List.mem_of_getElem? (i := 144) rfl)) (hw _ (List.mem_of_getElem? (i := 146) rfl)) (hw _ (List.mem_of_getElem? (i := 145) rfl)) (hw _ (List.mem_of_getElem? (i := 146) rfl)) (by decide) (kc := 0) (ks := 0) (h := T4.heap) (W := 0) (b := b) (argsL := []) (rest := []) (own_pay (W := 0) (rmAIL l Z a0 hw b z fm T4.heap (O0.keep K4 (allS gb4 all0)) Fo4 SC hz SF hfm) hZ (hw _ (List.mem_of_getElem? (i := 147) rfl)) (hw _ (List.mem_of_getElem? (i := 100) rfl)) (by decide) (by decide)) Eb4 c5 (lenOf pd_5 rfl) rfl (hb hby d31_11) rfl
  have N6 := Fr.app N4 N6'
  have c6 : Steps p.tables e below S0 (T6.setTop (mkF m 14 #[.val (.ref b), .val (.int ch)] [(.int (1 : Int32))])) := c6'
  have c7 : Steps p.tables e below S0 (T6.setTop (mkF m 18 #[.val (.ref b), .val (.int ch)] [(.int ch)])) := c6.trans (by
    refine XS.ifNo X6.here hx rfl (hb hby d31_14) rfl ((if0 _ _).trans (feq (by decide : ¬ ((1 : Int32) = (0 : Int32)))).1) ?_
    refine XS.iloadN X6.here hx rfl (hb hby d31_17) rfl ?_
    exact Steps.refl _)
  obtain ⟨v8, T8, L8, X8, ⟨N8', rfl, e8⟩, c8'⟩ := own_stat X6 hx hml hZ hown (hw _ (List.mem_of_getElem? (i := 167) rfl)) (hw _ (List.mem_of_getElem? (i := 168) rfl)) (hw _ (List.mem_of_getElem? (i := 77) rfl)) (hw _ (List.mem_of_getElem? (i := 169) rfl)) (by decide) (kc := 0) (ks := 0) (h := T4.heap) (W := 0) (argsL := [(.int ch)]) (rest := []) (own_pay (W := 0) (rmCanC l Z a0 hw ch T4.heap (O0.keep K4 (allS gb4 all0)) hc) hZ (hw _ (List.mem_of_getElem? (i := 169) rfl)) (hw _ (List.mem_of_getElem? (i := 77) rfl)) (by decide) (by decide)) c7 (lenOf pd_6 rfl) rfl (hb hby d31_18) e6
  have N8 := Fr.app N6 N8'
  have c8 : Steps p.tables e below S0 (T8.setTop (mkF m 21 #[.val (.ref b), .val (.int ch)] [(.int (1 : Int32))])) := c8'
  obtain ⟨T9, X9, e9, st9⟩ := getF X8 hx hZ hown (host := "") (Or.inl (hw _ (List.mem_of_getElem? (i := 104) rfl))) Via.refl e8 Fv4 (g := (mkF m 25 #[.val (.ref b), .val (.int ch)] [(.ref b)])) rfl rfl (hb hby d31_25)
  obtain ⟨T10, X10, e10, st10⟩ := getF X9 hx hZ hown (host := "") (Or.inl (hw _ (List.mem_of_getElem? (i := 130) rfl))) Via.refl e9 Fc4 (g := (mkF m 30 #[.val (.ref b), .val (.int ch)] [(.ref b), (.ref b), (.ref t4)])) rfl rfl (hb hby d31_30)
  have c11 : Steps p.tables e below S0 (T10.setTop (mkF m 36 #[.val (.ref b), .val (.int ch)] [(.int ((Int32.ofNat bs.length) + (1 : Int32))), (.ref b), (.int (Int32.ofNat bs.length)), (.ref t4)])) := c8.trans (by
    refine XS.ifNo X8.here hx rfl (hb hby d31_21) rfl ((if0 _ _).trans (feq (by decide : ¬ ((1 : Int32) = (0 : Int32)))).1) ?_
    refine XS.aloadN X8.here hx rfl (hb hby d31_24) rfl rfl ?_
    refine st9 _ ?_
    refine XS.aloadN X9.here hx rfl (hb hby d31_28) rfl rfl ?_
    refine XS.dup X9.here hx rfl (hb hby d31_29) rfl rfl ?_
    refine st10 _ ?_
    show Steps p.tables e below (T10.setTop (mkF m 33 #[.val (.ref b), .val (.int ch)] [(.int (Int32.ofNat bs.length)), (.ref b), (.ref t4)])) _
    refine XS.dupX1 X10.here hx rfl (hb hby d31_33) rfl rfl rfl ?_
    refine XS.iconst X10.here hx rfl (hb hby d31_34) ?_
    refine XS.iadd X10.here hx rfl (hb hby d31_35) rfl ?_
    exact Steps.refl _)
  have eq12 : ((Int32.ofNat bs.length) + (1 : Int32)) = (Int32.ofNat (bs ++ [ch]).length) := own_len1 _ _
  have c12 : Steps p.tables e below S0 (T10.setTop (mkF m 36 #[.val (.ref b), .val (.int ch)] [(.int (Int32.ofNat (bs ++ [ch]).length)), (.ref b), (.int (Int32.ofNat bs.length)), (.ref t4)])) := by have q := c11; rw [eq12] at q; exact q
  obtain ⟨T13, h13, X13, e13, W13, st13⟩ := putF X10 hx hZ hown (host := "") (Or.inl (hw _ (List.mem_of_getElem? (i := 130) rfl))) Via.refl e10 Fc4 Eb4 (Or.inl (hw _ (List.mem_of_getElem? (i := 131) rfl))) (hw _ (List.mem_of_getElem? (i := 91) rfl)) (ty := .int) (by decide) rfl rfl (g := (mkF m 36 #[.val (.ref b), .val (.int ch)] [(.int (Int32.ofNat (bs ++ [ch]).length)), (.ref b), (.int (Int32.ofNat bs.length)), (.ref t4)])) rfl rfl (hb hby d31_36)
  have N13 := Fr.snoc X13 N8 gb4
  have Fw13 := Fc4.same W13
  have c14 : Steps p.tables e below S0 (T13.setTop (mkF m 41 #[.val (.ref b), .val (.int ch)] [(.int (ch.toInt8.toInt32)), (.int (Int32.ofNat bs.length)), (.ref t4)])) := c12.trans (by
    refine st13 _ ?_
    refine XS.iloadN X13.here hx rfl (hb hby d31_39) rfl ?_
    refine XS.i2b X13.here hx rfl (hb hby d31_40) rfl ?_
    exact Steps.refl _)
  have Vp15 : Arv Z h13 t4 kb4 .byte (Int32.ofNat (L + max (bs.length + 1 - L) (L + 2))) (own_bv bs ++ [.int (0 : Int32)]) (.int (0 : Int32)) := (Vt4.other W13 (Ne.symm hbt4)).pad (pad_rep _ _ 1)
  obtain ⟨cl16, Ar16, q16, S16, M16, H16, G16⟩ := id Vp15
  have hin16 : ¬ ((Int32.ofNat bs.length) < 0 ∨ cl16.slots.size ≤ ((Int32.ofNat bs.length)).toNatClampNeg) := inb_of S16 ⟨own_nneg (by omega), (own_lt32 (by omega) (by omega)).mpr (by omega)⟩
  obtain ⟨T16, h16, X16, e16, W16, st16⟩ := stB X13 hx hZ e13 Ar16 (j := (Int32.ofNat bs.length)) hin16 (g := (mkF m 41 #[.val (.ref b), .val (.int ch)] [(.int (ch.toInt8.toInt32)), (.int (Int32.ofNat bs.length)), (.ref t4)])) rfl rfl (hb hby d31_41)
  have V16 := Arv.set Ar16 q16 S16 M16 H16 G16 (fits_nar_byte _) W16 bs.length (own_clamp (by omega)) (by simp [own_bvL])
  have N16 := Fr.snoc X16 N13 gt4
  rw [own_b2] at V16
  rw [own_bvSet] at V16
  have c17 : Steps p.tables e below S0 (T16.setTop (mkF m 76 #[.val (.ref b), .val (.int ch)] [(.ref b)])) := c14.trans (by
    refine st16 _ ?_
    refine XS.goto X16.here hx rfl (pc0 := 42) (pc' := 75) rfl (hb hby d31_42) (by decide) (by decide) ?_
    refine XS.aloadN X16.here hx rfl (hb hby d31_75) rfl rfl ?_
    exact Steps.refl _)
  refine ⟨T16, (some (.ref b)), _, _, _, X16, by decide, by decide, (fun q => by cases q), N16, ?_, fun fs hr => ?_⟩
  · rw [e16]
    exact ⟨rfl, t4, kb4, (L + max (bs.length + 1 - L) (L + 2)), ⟨((Eb4.wr W13).wr W16), (Fw13.other W16 (Or.inl hbt4)), ((Fo4.other W13 (Or.inr (slot_ne (Or.inl (hw _ (List.mem_of_getElem? (i := 107) rfl))) (Or.inl (hw _ (List.mem_of_getElem? (i := 131) rfl))) (by decide) (t := .byte) (t' := .int) (by decide) (by decide)))).other W16 (Or.inl hbt4)), ((Fv4.other W13 (Or.inr (slot_ne (Or.inl (hw _ (List.mem_of_getElem? (i := 105) rfl))) (Or.inl (hw _ (List.mem_of_getElem? (i := 131) rfl))) (by decide) (t := (.array .byte)) (t' := .int) (by decide) (by decide)))).other W16 (Or.inl hbt4)), V16, ((Et4.wr W13).wr W16), (by simp; omega), (by omega), hbt4, gb4, gt4⟩, ((((Keep.refl h0 [b, t]).trans K4 (allS (Or.inl (List.mem_of_getElem? (i := 0) rfl)) all0)).wr W13 (Or.inl (List.mem_of_getElem? (i := 0) rfl))).wr W16 (Or.inr (Nat.le_trans (Keep.refl h0 []).1 lo4))), Or.inr (Nat.le_trans (Keep.refl h0 []).1 lo4), Or.inr ⟨hg, by omega⟩⟩
  · exact own_retR X16 hx c17 hret rfl rfl (hb hby d31_76) hr
theorem rmAC (l : Launch) (Z : State) (a0 : Array Value) (hw : ∀ d ∈ tables_1, d.before a0 Z = true) (b t : Addr) (kb : ClassId) (L : Nat) (bs : List Int32) (ch : Int32) (z : Int32) (fm : Value) (h0 : Heap) (O0 : Old Z Z.heap.size h0) (hsb : own_SB Z h0 b t kb L bs) (hc : own_B ch) (hg : bs.length < L ∨ L + (L + 2) ≤ 12) (SC : Sta Z Z.heap "java/lang/String" "COMPACT_STRINGS" "Z" (.int z)) (hz : ¬ z = 0) (SF : Sta Z Z.heap "jdk/internal/util/Preconditions" "SIOOBE_FORMATTER" "Ljava/util/function/BiFunction;" fm) (hfm : fm.isRef = true) : own_NC l Z (⟨"java/lang/AbstractStringBuilder", "append", "(C)Ljava/lang/AbstractStringBuilder;"⟩ : MethodName) jdk_68_method_31_code 2 (some (.object "java/lang/AbstractStringBuilder")) ({ frames := 4, cells := 1, slots := 12, locals := 69 } : Room) #[.ref b, .int ch] h0 (fun v h => v = some (.ref b) ∧ ∃ (t2 : Addr) (kb2 : ClassId) (L2 : Nat), own_SB Z h b t2 kb2 L2 (bs ++ [ch]) ∧ Keep h0 h [b, t] ∧ (t2 = t ∨ h0.size ≤ t2) ∧ (L2 = L ∨ (bs.length = L ∧ L2 = L + (L + 2)))) := by
  by_cases q : bs.length < L
  · exact rmACn l Z a0 hw b t kb L bs ch z fm h0 O0 hsb hc q SC hz SF hfm
  · exact rmACg l Z a0 hw b t kb L bs ch z fm h0 O0 hsb hc (by have := hsb.2.2.2.2.2.2.1; omega) (by omega) SC hz SF hfm
set_option maxRecDepth 65536 in
set_option maxHeartbeats 40000000 in
theorem rmSC (l : Launch) (Z : State) (a0 : Array Value) (hw : ∀ d ∈ tables_1, d.before a0 Z = true) (b t : Addr) (kb : ClassId) (L : Nat) (bs : List Int32) (ch : Int32) (z : Int32) (fm : Value) (h0 : Heap) (O0 : Old Z Z.heap.size h0) (hsb : own_SB Z h0 b t kb L bs) (hc : own_B ch) (hg : bs.length < L ∨ L + (L + 2) ≤ 12) (SC : Sta Z Z.heap "java/lang/String" "COMPACT_STRINGS" "Z" (.int z)) (hz : ¬ z = 0) (SF : Sta Z Z.heap "jdk/internal/util/Preconditions" "SIOOBE_FORMATTER" "Ljava/util/function/BiFunction;" fm) (hfm : fm.isRef = true) :
    own_NC l Z (⟨"java/lang/StringBuilder", "append", "(C)Ljava/lang/StringBuilder;"⟩ : MethodName) jdk_67_method_14_code 2 (some (.object "java/lang/StringBuilder")) ({ frames := 5, cells := 1, slots := 12, locals := 82 } : Room) #[(.ref b), (.int ch)] h0 (fun v h => v = some (.ref b) ∧ ∃ (t2 : Addr) (kb2 : ClassId) (L2 : Nat), own_SB Z h b t2 kb2 L2 (bs ++ [ch]) ∧ Keep h0 h [b, t] ∧ (t2 = t ∨ h0.size ≤ t2) ∧ (L2 = L ∨ (bs.length = L ∧ L2 = L + (L + 2)))) := by
  refine own_nc (plainFor_of_name (by first | (simp [plainName, overriddenIn]; done) | decide +kernel)) ?_
  intro p e s m below meth c s₁ S0 X0 hx hby hml hret hnm hown hZ e0 cc
  have N0 := Fr.nil Z.heap.size
  have c0 : Steps p.tables e below S0 (s₁.setTop (mkF m 0 #[.val (.ref b), .val (.int ch)] [])) := cc.trans (XT.entry rfl)
  have c1 : Steps p.tables e below S0 (s₁.setTop (mkF m 2 #[.val (.ref b), .val (.int ch)] [(.int ch), (.ref b)])) := c0.trans (by
    refine XS.aloadN X0.here hx rfl (hb hby d30_0) rfl rfl ?_
    refine XS.iloadN X0.here hx rfl (hb hby d30_1) rfl ?_
    exact Steps.refl _)
  obtain ⟨v2, T2, L2, X2, ⟨N2', rfl, t2, kb2, M2, SB2, K2, ht2, hM2⟩, c2'⟩ := own_super X0 hx hml hZ hown (by decide) (hw _ (List.mem_of_getElem? (i := 163) rfl)) (own_same (y2 := (⟨"java/lang/AbstractStringBuilder", "ensureCapacityInternal", "(I)V"⟩ : MethodName)) rfl (hw _ (List.mem_of_getElem? (i := 164) rfl)) (hw _ (List.mem_of_getElem? (i := 133) rfl)) (hw _ (List.mem_of_getElem? (i := 135) rfl)) (by decide)) (hw _ (List.mem_of_getElem? (i := 164) rfl)) (hw _ (List.mem_of_getElem? (i := 115) rfl)) (hw _ (List.mem_of_getElem? (i := 166) rfl)) (kc := 1) (ks := 12) (h := h0) (W := 0) (b := b) (argsL := [(.int ch)]) (rest := []) (own_pay (W := 0) (rmAC l Z a0 hw b t kb L bs ch z fm h0 O0 hsb hc hg SC hz SF hfm) hZ (hw _ (List.mem_of_getElem? (i := 166) rfl)) (hw _ (List.mem_of_getElem? (i := 100) rfl)) (by decide) (by decide)) hsb.1 c1 (lenOf pd_7 rfl) rfl (hb hby d30_2) e0
  have N2 := Fr.app N0 N2'
  have c2 : Steps p.tables e below S0 (T2.setTop (mkF m 5 #[.val (.ref b), .val (.int ch)] [(.ref b)])) := c2'
  have c3 : Steps p.tables e below S0 (T2.setTop (mkF m 7 #[.val (.ref b), .val (.int ch)] [(.ref b)])) := c2.trans (by
    refine XS.pop X2.here hx rfl (hb hby d30_5) rfl rfl ?_
    refine XS.aloadN X2.here hx rfl (hb hby d30_6) rfl rfl ?_
    exact Steps.refl _)
  refine ⟨T2, (some (.ref b)), _, _, _, X2, by decide, by decide, (fun q => by cases q), N2, ?_, fun fs hr => ?_⟩
  · skip
    exact ⟨rfl, t2, kb2, M2, SB2, K2, ht2, hM2⟩
  · exact own_retR X2 hx c3 hret rfl rfl (hb hby d30_7) hr
set_option maxRecDepth 65536 in
set_option maxHeartbeats 40000000 in
theorem rmAI (l : Launch) (Z : State) (a0 : Array Value) (hw : ∀ d ∈ tables_1, d.before a0 Z = true) (b : Addr) (n : Nat) (u1 u2 : Value) (z : Int32) (fm : Value) (h0 : Heap) (O0 : Old Z Z.heap.size h0) (Eb : Exa Z h0 b "java/lang/StringBuilder") (Fc : Fld Z h0 b "java/lang/AbstractStringBuilder" "count" "I" (.int (0 : Int32))) (Fo : Fld Z h0 b "java/lang/AbstractStringBuilder" "coder" "B" u2) (Fv : Fld Z h0 b "java/lang/AbstractStringBuilder" "value" "[B" u1) (gb : Z.heap.size ≤ b) (hn : n ≤ 5) (SC : Sta Z Z.heap "java/lang/String" "COMPACT_STRINGS" "Z" (.int z)) (hz : ¬ z = 0) (SF : Sta Z Z.heap "jdk/internal/util/Preconditions" "SIOOBE_FORMATTER" "Ljava/util/function/BiFunction;" fm) (hfm : fm.isRef = true) :
    own_NC l Z (⟨"java/lang/AbstractStringBuilder", "<init>", "(I)V"⟩ : MethodName) jdk_68_method_2_code 2 none ({ frames := 1, cells := 1, slots := 5, locals := 12 } : Room) #[(.ref b), (.int (Int32.ofNat n))] h0 (fun v h => v = none ∧ ∃ (t : Addr) (kb : ClassId), own_SB Z h b t kb n [] ∧ Keep h0 h [b] ∧ h0.size ≤ t) := by
  refine own_nc (plainFor_of_name (by first | (simp [plainName, overriddenIn]; done) | decide +kernel)) ?_
  intro p e s m below meth c s₁ S0 X0 hx hby hml hret hnm hown hZ e0 cc
  have N0 := Fr.nil Z.heap.size
  have c0 : Steps p.tables e below S0 (s₁.setTop (mkF m 0 #[.val (.ref b), .val (.int (Int32.ofNat n))] [])) := cc.trans (XT.entry rfl)
  obtain ⟨T1, X1, e1, st1⟩ := initO X0 hx hZ hown (hw _ (List.mem_of_getElem? (i := 102) rfl)) (hw _ (List.mem_of_getElem? (i := 20) rfl)) (hw _ (List.mem_of_getElem? (i := 21) rfl)) e0 (g := (mkF m 1 #[.val (.ref b), .val (.int (Int32.ofNat n))] [(.ref b)])) rfl (by rw [hml]; rfl) rfl (hb hby d22_1) (by decide) (W := 0) (by show 2 * 0 + _ ≤ _; exact Nat.le_of_eq rfl) (by decide)
  obtain ⟨T2, X2, e2, st2⟩ := getS2 X1 hx hZ hown (host := "") (Or.inl (hw _ (List.mem_of_getElem? (i := 103) rfl))) Via.refl e1 (SC.ext O0.2) (g := (mkF m 4 #[.val (.ref b), .val (.int (Int32.ofNat n))] [])) rfl (hb hby d22_4)
  obtain ⟨T3, h3, k3, X3, e3, E3, A3, Ev3, st3⟩ := newPE X2 hx hZ (hw _ (List.mem_of_getElem? (i := 23) rfl)) e2 (g := (mkF m 12 #[.val (.ref b), .val (.int (Int32.ofNat n))] [(.int (Int32.ofNat n)), (.ref b)])) rfl (hb hby d22_12) rfl (own_nneg (by omega)) (cap := 5) (by rw [own_clamp (by omega)]; exact hn) (by decide) (by decide) (by decide) (ad := "[B") rfl
  obtain ⟨b3, g3⟩ : ∃ z, z = h0.size := ⟨_, rfl⟩
  rw [← g3] at A3 Ev3 st3
  have lo3 : h0.size ≤ b3 := Nat.le_of_eq g3.symm
  have ge3 : Z.heap.size ≤ b3 := Nat.le_trans O0.2.1 lo3
  have V3 := Arv.new A3 (own_nneg (by omega))
  obtain ⟨T4, h4, X4, e4, W4, st4⟩ := putF X3 hx hZ hown (host := "") (Or.inl (hw _ (List.mem_of_getElem? (i := 104) rfl))) Via.refl e3 (Fv.ext E3) (Eb.ext E3) (Or.inl (hw _ (List.mem_of_getElem? (i := 105) rfl))) (hw _ (List.mem_of_getElem? (i := 91) rfl)) (ty := (.array .byte)) (by decide) rfl rfl (g := (mkF m 14 #[.val (.ref b), .val (.int (Int32.ofNat n))] [(.ref b3), (.ref b)])) rfl rfl (hb hby d22_14)
  have N4 := Fr.snoc X4 N0 gb
  have Fw4 := (Fv.ext E3).same W4
  obtain ⟨T5, h5, X5, e5, W5, st5⟩ := putFN X4 hx hZ hown (hw _ (List.mem_of_getElem? (i := 106) rfl)) Via.refl e4 ((Fo.ext E3).other W4 (Or.inr (slot_ne (Or.inl (hw _ (List.mem_of_getElem? (i := 107) rfl))) (Or.inl (hw _ (List.mem_of_getElem? (i := 105) rfl))) (by decide) (t := .byte) (t' := (.array .byte)) (by decide) (by decide)))) ((Eb.ext E3).wr W4) (Or.inl (hw _ (List.mem_of_getElem? (i := 107) rfl))) (hw _ (List.mem_of_getElem? (i := 91) rfl)) (ty := .byte) (v' := (.int (0 : Int32))) (by decide) rfl rfl (g := (mkF m 19 #[.val (.ref b), .val (.int (Int32.ofNat n))] [(.int (0 : Int32)), (.ref b)])) rfl rfl (hb hby d22_19)
  have N5 := Fr.snoc X5 N4 gb
  have Fw5 := ((Fo.ext E3).other W4 (Or.inr (slot_ne (Or.inl (hw _ (List.mem_of_getElem? (i := 107) rfl))) (Or.inl (hw _ (List.mem_of_getElem? (i := 105) rfl))) (by decide) (t := .byte) (t' := (.array .byte)) (by decide) (by decide)))).same W5
  have c6 : Steps p.tables e below S0 (T5.setTop (mkF m 38 #[.val (.ref b), .val (.int (Int32.ofNat n))] [])) := c0.trans (by
    refine XS.aloadN X0.here hx rfl (hb hby d22_0) rfl rfl ?_
    refine st1 _ ?_
    refine st2 _ ?_
    refine XS.ifNo X2.here hx rfl (hb hby d22_7) rfl ((if0 _ _).trans (feq hz).1) ?_
    refine XS.aloadN X2.here hx rfl (hb hby d22_10) rfl rfl ?_
    refine XS.iloadN X2.here hx rfl (hb hby d22_11) rfl ?_
    refine st3 _ ?_
    show Steps p.tables e below (T3.setTop (mkF m 14 #[.val (.ref b), .val (.int (Int32.ofNat n))] [(.ref b3), (.ref b)])) _
    refine st4 _ ?_
    refine XS.aloadN X4.here hx rfl (hb hby d22_17) rfl rfl ?_
    refine XS.iconst X4.here hx rfl (hb hby d22_18) ?_
    refine st5 _ ?_
    show Steps p.tables e below (T5.setTop (mkF m 22 #[.val (.ref b), .val (.int (Int32.ofNat n))] [])) _
    refine XS.goto X5.here hx rfl (pc0 := 22) (pc' := 38) rfl (hb hby d22_22) (by decide) (by decide) ?_
    exact Steps.refl _)
  refine ⟨T5, none, _, _, _, X5, by decide, by decide, (fun _ => rfl), N5, ?_, fun fs hr => ?_⟩
  · rw [e5]
    exact ⟨rfl, b3, k3, ⟨(((Eb.ext E3).wr W4).wr W5), (((Fc.ext E3).other W4 (Or.inr (slot_ne (Or.inl (hw _ (List.mem_of_getElem? (i := 131) rfl))) (Or.inl (hw _ (List.mem_of_getElem? (i := 105) rfl))) (by decide) (t := .int) (t' := (.array .byte)) (by decide) (by decide)))).other W5 (Or.inr (slot_ne (Or.inl (hw _ (List.mem_of_getElem? (i := 131) rfl))) (Or.inl (hw _ (List.mem_of_getElem? (i := 107) rfl))) (by decide) (t := .int) (t' := .byte) (by decide) (by decide)))), Fw5, (Fw4.other W5 (Or.inr (slot_ne (Or.inl (hw _ (List.mem_of_getElem? (i := 105) rfl))) (Or.inl (hw _ (List.mem_of_getElem? (i := 107) rfl))) (by decide) (t := (.array .byte)) (t' := .byte) (by decide) (by decide)))), ((V3.other W4 (Ne.symm (Nat.ne_of_lt (Nat.lt_of_lt_of_le Eb.lt lo3)))).other W5 (Ne.symm (Nat.ne_of_lt (Nat.lt_of_lt_of_le Eb.lt lo3)))), ((Ev3.wr W4).wr W5), (Nat.zero_le _), (by omega), (Nat.ne_of_lt (Nat.lt_of_lt_of_le Eb.lt lo3)), gb, ge3⟩, ((((Keep.refl h0 [b]).ext E3).wr W4 (Or.inl (List.mem_of_getElem? (i := 0) rfl))).wr W5 (Or.inl (List.mem_of_getElem? (i := 0) rfl))), (Nat.le_trans (Keep.refl h0 []).1 lo3)⟩
  · exact c6.trans (X5.returnOut hx hret (hb hby d22_38) hr)
set_option maxRecDepth 65536 in
set_option maxHeartbeats 40000000 in
theorem rmSI (l : Launch) (Z : State) (a0 : Array Value) (hw : ∀ d ∈ tables_1, d.before a0 Z = true) (b : Addr) (n : Nat) (u1 u2 : Value) (z : Int32) (fm : Value) (h0 : Heap) (O0 : Old Z Z.heap.size h0) (Eb : Exa Z h0 b "java/lang/StringBuilder") (Fc : Fld Z h0 b "java/lang/AbstractStringBuilder" "count" "I" (.int (0 : Int32))) (Fo : Fld Z h0 b "java/lang/AbstractStringBuilder" "coder" "B" u2) (Fv : Fld Z h0 b "java/lang/AbstractStringBuilder" "value" "[B" u1) (gb : Z.heap.size ≤ b) (hn : n ≤ 5) (SC : Sta Z Z.heap "java/lang/String" "COMPACT_STRINGS" "Z" (.int z)) (hz : ¬ z = 0) (SF : Sta Z Z.heap "jdk/internal/util/Preconditions" "SIOOBE_FORMATTER" "Ljava/util/function/BiFunction;" fm) (hfm : fm.isRef = true) :
    own_NC l Z (⟨"java/lang/StringBuilder", "<init>", "(I)V"⟩ : MethodName) jdk_67_method_2_code 2 none ({ frames := 2, cells := 1, slots := 5, locals := 25 } : Room) #[(.ref b), (.int (Int32.ofNat n))] h0 (fun v h => v = none ∧ ∃ (t : Addr) (kb : ClassId), own_SB Z h b t kb n [] ∧ Keep h0 h [b] ∧ h0.size ≤ t) := by
  refine own_nc (plainFor_of_name (by first | (simp [plainName, overriddenIn]; done) | decide +kernel)) ?_
  intro p e s m below meth c s₁ S0 X0 hx hby hml hret hnm hown hZ e0 cc
  have N0 := Fr.nil Z.heap.size
  have c0 : Steps p.tables e below S0 (s₁.setTop (mkF m 0 #[.val (.ref b), .val (.int (Int32.ofNat n))] [])) := cc.trans (XT.entry rfl)
  have c1 : Steps p.tables e below S0 (s₁.setTop (mkF m 2 #[.val (.ref b), .val (.int (Int32.ofNat n))] [(.int (Int32.ofNat n)), (.ref b)])) := c0.trans (by
    refine XS.aloadN X0.here hx rfl (hb hby d21_0) rfl rfl ?_
    refine XS.iloadN X0.here hx rfl (hb hby d21_1) rfl ?_
    exact Steps.refl _)
  obtain ⟨v2, T2, L2, X2, ⟨N2', rfl, t2, kb2, SB2, K2, lo2⟩, c2'⟩ := own_spec X0 hx hml hZ hown rfl (hw _ (List.mem_of_getElem? (i := 96) rfl)) (hw _ (List.mem_of_getElem? (i := 97) rfl)) (hw _ (List.mem_of_getElem? (i := 101) rfl)) (by decide) (kc := 1) (ks := 5) (h := h0) (W := 0) (b := b) (argsL := [(.int (Int32.ofNat n))]) (rest := []) (own_pay (W := 0) (rmAI l Z a0 hw b n u1 u2 z fm h0 O0 Eb Fc Fo Fv gb hn SC hz SF hfm) hZ (hw _ (List.mem_of_getElem? (i := 101) rfl)) (hw _ (List.mem_of_getElem? (i := 100) rfl)) (by decide) (by decide)) c1 (lenOf pd_4 rfl) rfl (hb hby d21_2) e0
  have N2 := Fr.app N0 N2'
  have c2 : Steps p.tables e below S0 (T2.setTop (mkF m 5 #[.val (.ref b), .val (.int (Int32.ofNat n))] [])) := c2'
  refine ⟨T2, none, _, _, _, X2, by decide, by decide, (fun _ => rfl), N2, ?_, fun fs hr => ?_⟩
  · skip
    exact ⟨rfl, t2, kb2, SB2, K2, lo2⟩
  · exact c2.trans (X2.returnOut hx hret (hb hby d21_5) hr)
set_option maxRecDepth 65536 in
set_option maxHeartbeats 40000000 in
theorem rmVal (l : Launch) (Z : State) (a0 : Array Value) (hw : ∀ d ∈ tables_1, d.before a0 Z = true) (x u : Addr) (h0 : Heap) (O0 : Old Z Z.heap.size h0) (V : Fld Z h0 x "java/lang/String" "value" "[B" (.ref u)) :
    own_NC l Z (⟨"java/lang/String", "value", "()[B"⟩ : MethodName) jdk_42_method_153_code 1 (some (.array .byte)) ({ frames := 0, cells := 0, slots := 0, locals := 0 } : Room) #[(.ref x)] h0 (fun v h => v = some (.ref u) ∧ h = h0) := by
  refine own_nc (plainFor_of_name (by first | (simp [plainName, overriddenIn]; done) | decide +kernel)) ?_
  intro p e s m below meth c s₁ S0 X0 hx hby hml hret hnm hown hZ e0 cc
  have N0 := Fr.nil Z.heap.size
  have c0 : Steps p.tables e below S0 (s₁.setTop (mkF m 0 #[.val (.ref x)] [])) := cc.trans (XT.entry rfl)
  obtain ⟨T1, X1, e1, st1⟩ := getF X0 hx hZ hown (host := "") (Or.inl (hw _ (List.mem_of_getElem? (i := 28) rfl))) Via.refl e0 V (g := (mkF m 1 #[.val (.ref x)] [(.ref x)])) rfl rfl (hb hby d29_1)
  have c2 : Steps p.tables e below S0 (T1.setTop (mkF m 4 #[.val (.ref x)] [(.ref u)])) := c0.trans (by
    refine XS.aloadN X0.here hx rfl (hb hby d29_0) rfl rfl ?_
    refine st1 _ ?_
    exact Steps.refl _)
  refine ⟨T1, (some (.ref u)), _, _, _, X1, by decide, by decide, (fun q => by cases q), N0, ?_, fun fs hr => ?_⟩
  · rw [e1]
    exact ⟨rfl, rfl⟩
  · exact own_retR X1 hx c2 hret rfl rfl (hb hby d29_4) hr
set_option maxRecDepth 65536 in
set_option maxHeartbeats 40000000 in
theorem rmIsL (l : Launch) (Z : State) (a0 : Array Value) (hw : ∀ d ∈ tables_1, d.before a0 Z = true) (x : Addr) (z : Int32) (fm : Value) (h0 : Heap) (O0 : Old Z Z.heap.size h0) (Cd : Fld Z h0 x "java/lang/String" "coder" "B" (.int (0 : Int32))) (SC : Sta Z Z.heap "java/lang/String" "COMPACT_STRINGS" "Z" (.int z)) (hz : ¬ z = 0) (SF : Sta Z Z.heap "jdk/internal/util/Preconditions" "SIOOBE_FORMATTER" "Ljava/util/function/BiFunction;" fm) (hfm : fm.isRef = true) :
    own_NC l Z (⟨"java/lang/String", "isLatin1", "()Z"⟩ : MethodName) jdk_42_method_154_code 1 (some .boolean) ({ frames := 0, cells := 0, slots := 0, locals := 0 } : Room) #[(.ref x)] h0 (fun v h => v = some (.int (1 : Int32)) ∧ h = h0) := by
  refine own_nc (plainFor_of_name (by first | (simp [plainName, overriddenIn]; done) | decide +kernel)) ?_
  intro p e s m below meth c s₁ S0 X0 hx hby hml hret hnm hown hZ e0 cc
  have N0 := Fr.nil Z.heap.size
  have c0 : Steps p.tables e below S0 (s₁.setTop (mkF m 0 #[.val (.ref x)] [])) := cc.trans (XT.entry rfl)
  obtain ⟨T1, X1, e1, st1⟩ := getS2 X0 hx hZ hown (host := "") (Or.inl (hw _ (List.mem_of_getElem? (i := 44) rfl))) Via.refl e0 (SC.ext O0.2) (g := (mkF m 0 #[.val (.ref x)] [])) rfl (hb hby d16_0)
  obtain ⟨T2, X2, e2, st2⟩ := getF X1 hx hZ hown (host := "") (Or.inl (hw _ (List.mem_of_getElem? (i := 29) rfl))) Via.refl e1 Cd (g := (mkF m 7 #[.val (.ref x)] [(.ref x)])) rfl rfl (hb hby d16_7)
  have c3 : Steps p.tables e below S0 (T2.setTop (mkF m 18 #[.val (.ref x)] [(.int (1 : Int32))])) := c0.trans (by
    refine st1 _ ?_
    refine XS.ifNo X1.here hx rfl (hb hby d16_3) rfl ((if0 _ _).trans (feq hz).1) ?_
    refine XS.aloadN X1.here hx rfl (hb hby d16_6) rfl rfl ?_
    refine st2 _ ?_
    show Steps p.tables e below (T2.setTop (mkF m 10 #[.val (.ref x)] [(.int (0 : Int32))])) _
    refine XS.ifNo X2.here hx rfl (hb hby d16_10) rfl ((if0 _ _).trans (teq (by decide : (0 : Int32) = (0 : Int32))).2) ?_
    refine XS.iconst X2.here hx rfl (hb hby d16_13) ?_
    refine XS.goto X2.here hx rfl (pc0 := 14) (pc' := 18) rfl (hb hby d16_14) (by decide) (by decide) ?_
    exact Steps.refl _)
  refine ⟨T2, (some (.int (1 : Int32))), _, _, _, X2, by decide, by decide, (fun q => by cases q), N0, ?_, fun fs hr => ?_⟩
  · rw [e2]
    exact ⟨rfl, rfl⟩
  · exact c3.trans (retN X2 hx (t := .boolean) hret (by simp) (hb hby d16_18) hr)
set_option maxRecDepth 65536 in
set_option maxHeartbeats 40000000 in
theorem rmApc (l : Launch) (Z : State) (a0 : Array Value) (hw : ∀ d ∈ tables_1, d.before a0 Z = true) (b t : Addr) (kb : ClassId) (L : Nat) (bs : List Int32) (cs : List Int32) (x u : Addr) (ku : ClassId) (i : Nat) (z : Int32) (fm : Value) (h0 : Heap) (O0 : Old Z Z.heap.size h0) (hsb : own_SB Z h0 b t kb L bs) (E : Exa Z h0 x "java/lang/String") (V : Fld Z h0 x "java/lang/String" "value" "[B" (.ref u)) (Cd : Fld Z h0 x "java/lang/String" "coder" "B" (.int (0 : Int32))) (K : Arv Z h0 u ku .byte (Int32.ofNat (cs : List Int32).length) (((cs : List Int32).map (fun c : Int32 => c.toInt8.toInt32)).map Value.int) (.int (0 : Int32))) (n1 : x ≠ b) (n2 : x ≠ t) (n3 : u ≠ b) (n4 : u ≠ t) (hi : i ≤ cs.length) (hcs : cs.length ≤ 4000) (hf : bs.length + i ≤ L) (SC : Sta Z Z.heap "java/lang/String" "COMPACT_STRINGS" "Z" (.int z)) (hz : ¬ z = 0) (SF : Sta Z Z.heap "jdk/internal/util/Preconditions" "SIOOBE_FORMATTER" "Ljava/util/function/BiFunction;" fm) (hfm : fm.isRef = true) :
    own_NC l Z (⟨"java/lang/AbstractStringBuilder", "appendChars", "(Ljava/lang/String;II)V"⟩ : MethodName) jdk_68_method_75_code 8 none ({ frames := 1, cells := 0, slots := 0, locals := 40 } : Room) #[(.ref b), (.ref x), (.int (0 : Int32)), (.int (Int32.ofNat i))] h0 (fun v h => v = none ∧ own_SB Z h b t kb L (bs ++ cs.take i) ∧ Keep h0 h [b, t]) := by
  refine own_nc (plainFor_of_name (by first | (simp [plainName, overriddenIn]; done) | decide +kernel)) ?_
  intro p e s m below meth c s₁ S0 X0 hx hby hml hret hnm hown hZ e0 cc
  have N0 := Fr.nil Z.heap.size
  have c0 : Steps p.tables e below S0 (s₁.setTop (mkF m 0 #[.val (.ref b), .val (.ref x), .val (.int (0 : Int32)), .val (.int (Int32.ofNat i)), .unset, .unset, .unset, .unset] [])) := cc.trans (XT.entry rfl)
  obtain ⟨Eb, Fc, Fo, Fv, Vt, Et, hle, hL4, hbt, gb, gt⟩ := id hsb
  have c1 : Steps p.tables e below S0 (s₁.setTop (mkF m 1 #[.val (.ref b), .val (.ref x), .val (.int (0 : Int32)), .val (.int (Int32.ofNat i)), .unset, .unset, .unset, .unset] [(.ref b)])) := c0.trans (by
    refine XS.aloadN X0.here hx rfl (hb hby d27_0) rfl rfl ?_
    exact Steps.refl _)
  obtain ⟨v2, T2, L2, X2, ⟨N2', rfl, e2⟩, c2'⟩ := own_virt X0 hx hml hZ hown (hw _ (List.mem_of_getElem? (i := 143) rfl)) (hw _ (List.mem_of_getElem? (i := 144) rfl)) (hw _ (List.mem_of_getElem? (i := 146) rfl)) (hw _ (List.mem_of_getElem? (i := 145) rfl)) (hw _ (List.mem_of_getElem? (i := 146) rfl)) (by decide) (kc := 0) (ks := 0) (h := h0) (W := 0) (b := b) (argsL := []) (rest := []) (own_pay (W := 0) (rmAIL l Z a0 hw b z fm h0 O0 Fo SC hz SF hfm) hZ (hw _ (List.mem_of_getElem? (i := 147) rfl)) (hw _ (List.mem_of_getElem? (i := 100) rfl)) (by decide) (by decide)) Eb c1 (lenOf pd_5 rfl) rfl (hb hby d27_1) e0
  have N2 := Fr.app N0 N2'
  have c2 : Steps p.tables e below S0 (T2.setTop (mkF m 4 #[.val (.ref b), .val (.ref x), .val (.int (0 : Int32)), .val (.int (Int32.ofNat i)), .unset, .unset, .unset, .unset] [(.int (1 : Int32))])) := c2'
  have c3 : Steps p.tables e below S0 (T2.setTop (mkF m 8 #[.val (.ref b), .val (.ref x), .val (.int (0 : Int32)), .val (.int (Int32.ofNat i)), .unset, .unset, .unset, .unset] [(.ref x)])) := c2.trans (by
    refine XS.ifNo X2.here hx rfl (hb hby d27_4) rfl ((if0 _ _).trans (feq (by decide : ¬ ((1 : Int32) = (0 : Int32)))).1) ?_
    refine XS.aloadN X2.here hx rfl (hb hby d27_7) rfl rfl ?_
    exact Steps.refl _)
  obtain ⟨v4, T4, L4, X4, ⟨N4', rfl, e4⟩, c4'⟩ := own_virt X2 hx hml hZ hown (hw _ (List.mem_of_getElem? (i := 148) rfl)) (hw _ (List.mem_of_getElem? (i := 71) rfl)) (hw _ (List.mem_of_getElem? (i := 73) rfl)) (hw _ (List.mem_of_getElem? (i := 72) rfl)) (hw _ (List.mem_of_getElem? (i := 73) rfl)) (by decide) (kc := 0) (ks := 0) (h := h0) (W := 0) (b := x) (argsL := []) (rest := []) (own_pay (W := 0) (rmIsL l Z a0 hw x z fm h0 O0 Cd SC hz SF hfm) hZ (hw _ (List.mem_of_getElem? (i := 74) rfl)) (hw _ (List.mem_of_getElem? (i := 10) rfl)) (by decide) (by decide)) E c3 (lenOf pd_5 rfl) rfl (hb hby d27_8) e2
  have N4 := Fr.app N2 N4'
  have c4 : Steps p.tables e below S0 (T4.setTop (mkF m 11 #[.val (.ref b), .val (.ref x), .val (.int (0 : Int32)), .val (.int (Int32.ofNat i)), .unset, .unset, .unset, .unset] [(.int (1 : Int32))])) := c4'
  have c5 : Steps p.tables e below S0 (T4.setTop (mkF m 15 #[.val (.ref b), .val (.ref x), .val (.int (0 : Int32)), .val (.int (Int32.ofNat i)), .unset, .unset, .unset, .unset] [(.ref x)])) := c4.trans (by
    refine XS.ifNo X4.here hx rfl (hb hby d27_11) rfl ((if0 _ _).trans (feq (by decide : ¬ ((1 : Int32) = (0 : Int32)))).1) ?_
    refine XS.aloadN X4.here hx rfl (hb hby d27_14) rfl rfl ?_
    exact Steps.refl _)
  obtain ⟨v6, T6, L6, X6, ⟨N6', rfl, e6⟩, c6'⟩ := own_virt X4 hx hml hZ hown (hw _ (List.mem_of_getElem? (i := 149) rfl)) (hw _ (List.mem_of_getElem? (i := 150) rfl)) (hw _ (List.mem_of_getElem? (i := 152) rfl)) (hw _ (List.mem_of_getElem? (i := 151) rfl)) (hw _ (List.mem_of_getElem? (i := 152) rfl)) (by decide) (kc := 0) (ks := 0) (h := h0) (W := 0) (b := x) (argsL := []) (rest := []) (own_pay (W := 0) (rmVal l Z a0 hw x u h0 O0 V) hZ (hw _ (List.mem_of_getElem? (i := 153) rfl)) (hw _ (List.mem_of_getElem? (i := 10) rfl)) (by decide) (by decide)) E c5 (lenOf pd_8 rfl) rfl (hb hby d27_15) e4
  have N6 := Fr.app N4 N6'
  have c6 : Steps p.tables e below S0 (T6.setTop (mkF m 18 #[.val (.ref b), .val (.ref x), .val (.int (0 : Int32)), .val (.int (Int32.ofNat i)), .unset, .unset, .unset, .unset] [(.ref u)])) := c6'
  obtain ⟨T7, X7, e7, st7⟩ := getF X6 hx hZ hown (host := "") (Or.inl (hw _ (List.mem_of_getElem? (i := 104) rfl))) Via.refl e6 Fv (g := (mkF m 20 #[.val (.ref b), .val (.ref x), .val (.int (0 : Int32)), .val (.int (Int32.ofNat i)), .unset, .unset, .unset, .unset] [(.ref b), (.int (0 : Int32)), (.ref u)])) rfl rfl (hb hby d27_20)
  obtain ⟨T8, X8, e8, st8⟩ := getF X7 hx hZ hown (host := "") (Or.inl (hw _ (List.mem_of_getElem? (i := 130) rfl))) Via.refl e7 Fc (g := (mkF m 24 #[.val (.ref b), .val (.ref x), .val (.int (0 : Int32)), .val (.int (Int32.ofNat i)), .unset, .unset, .unset, .unset] [(.ref b), (.ref t), (.int (0 : Int32)), (.ref u)])) rfl rfl (hb hby d27_24)
  have c9 : Steps p.tables e below S0 (T8.setTop (mkF m 30 #[.val (.ref b), .val (.ref x), .val (.int (0 : Int32)), .val (.int (Int32.ofNat i)), .unset, .unset, .unset, .unset] [(.int ((Int32.ofNat i) - (0 : Int32))), (.int (Int32.ofNat bs.length)), (.ref t), (.int (0 : Int32)), (.ref u)])) := c6.trans (by
    refine XS.iloadN X6.here hx rfl (hb hby d27_18) rfl ?_
    refine XS.aloadN X6.here hx rfl (hb hby d27_19) rfl rfl ?_
    refine st7 _ ?_
    refine XS.aloadN X7.here hx rfl (hb hby d27_23) rfl rfl ?_
    refine st8 _ ?_
    show Steps p.tables e below (T8.setTop (mkF m 27 #[.val (.ref b), .val (.ref x), .val (.int (0 : Int32)), .val (.int (Int32.ofNat i)), .unset, .unset, .unset, .unset] [(.int (Int32.ofNat bs.length)), (.ref t), (.int (0 : Int32)), (.ref u)])) _
    refine XS.iloadN X8.here hx rfl (hb hby d27_27) rfl ?_
    refine XS.iloadN X8.here hx rfl (hb hby d27_28) rfl ?_
    refine XS.isub X8.here hx rfl (hb hby d27_29) rfl ?_
    exact Steps.refl _)
  have eq10 : ((Int32.ofNat i) - (0 : Int32)) = (Int32.ofNat i) := own_sub00 _
  have c10 : Steps p.tables e below S0 (T8.setTop (mkF m 30 #[.val (.ref b), .val (.ref x), .val (.int (0 : Int32)), .val (.int (Int32.ofNat i)), .unset, .unset, .unset, .unset] [(.int (Int32.ofNat i)), (.int (Int32.ofNat bs.length)), (.ref t), (.int (0 : Int32)), (.ref u)])) := by have q := c9; rw [eq10] at q; exact q
  obtain ⟨T11, h11, L11, X11, e11, N11, K11, V11, st11⟩ := own_cpV X8 hx hZ hown (hw _ (List.mem_of_getElem? (i := 154) rfl)) (hw _ (List.mem_of_getElem? (i := 157) rfl)) (hw _ (List.mem_of_getElem? (i := 155) rfl)) (hw _ (List.mem_of_getElem? (i := 156) rfl)) e8 (cs.length) (L) (0) (bs.length) (i) K Vt rfl (by omega) (by omega) (by omega) (by omega) (own_bv (bs ++ cs.take i)) (own_cp1 bs cs i hi) N6 gt (g := (mkF m 30 #[.val (.ref b), .val (.ref x), .val (.int (0 : Int32)), .val (.int (Int32.ofNat i)), .unset, .unset, .unset, .unset] [(.int (Int32.ofNat i)), (.int (Int32.ofNat bs.length)), (.ref t), (.int (0 : Int32)), (.ref u)])) rfl (by rw [hml]; rfl) rfl (hb hby d27_30) (by decide) (W := 0) (by show 2 * 0 + _ ≤ _; exact Nat.le_of_eq rfl) (by decide)
  obtain ⟨T12, X12, e12, st12⟩ := getF X11 hx hZ hown (host := "") (Or.inl (hw _ (List.mem_of_getElem? (i := 130) rfl))) Via.refl e11 (Fc.keep K11 (ninS hbt nin0)) (g := (mkF m 196 #[.val (.ref b), .val (.ref x), .val (.int (0 : Int32)), .val (.int (Int32.ofNat i)), .unset, .unset, .unset, .unset] [(.ref b), (.ref b)])) rfl rfl (hb hby d27_196)
  have c13 : Steps p.tables e below S0 (T12.setTop (mkF m 203 #[.val (.ref b), .val (.ref x), .val (.int (0 : Int32)), .val (.int (Int32.ofNat i)), .unset, .unset, .unset, .unset] [(.int ((Int32.ofNat bs.length) + ((Int32.ofNat i) - (0 : Int32)))), (.ref b)])) := c10.trans (by
    refine st11 _ ?_
    refine XS.goto X11.here hx rfl (pc0 := 33) (pc' := 194) rfl (hb hby d27_33) (by decide) (by decide) ?_
    refine XS.aloadN X11.here hx rfl (hb hby d27_194) rfl rfl ?_
    refine XS.dup X11.here hx rfl (hb hby d27_195) rfl rfl ?_
    refine st12 _ ?_
    show Steps p.tables e below (T12.setTop (mkF m 199 #[.val (.ref b), .val (.ref x), .val (.int (0 : Int32)), .val (.int (Int32.ofNat i)), .unset, .unset, .unset, .unset] [(.int (Int32.ofNat bs.length)), (.ref b)])) _
    refine XS.iloadN X12.here hx rfl (hb hby d27_199) rfl ?_
    refine XS.iloadN X12.here hx rfl (hb hby d27_200) rfl ?_
    refine XS.isub X12.here hx rfl (hb hby d27_201) rfl ?_
    refine XS.iadd X12.here hx rfl (hb hby d27_202) rfl ?_
    exact Steps.refl _)
  have eq14 : ((Int32.ofNat bs.length) + ((Int32.ofNat i) - (0 : Int32))) = (Int32.ofNat (bs ++ cs.take i).length) := (own_lenA bs cs i hi)
  have c14 : Steps p.tables e below S0 (T12.setTop (mkF m 203 #[.val (.ref b), .val (.ref x), .val (.int (0 : Int32)), .val (.int (Int32.ofNat i)), .unset, .unset, .unset, .unset] [(.int (Int32.ofNat (bs ++ cs.take i).length)), (.ref b)])) := by have q := c13; rw [eq14] at q; exact q
  obtain ⟨T15, h15, X15, e15, W15, st15⟩ := putF X12 hx hZ hown (host := "") (Or.inl (hw _ (List.mem_of_getElem? (i := 130) rfl))) Via.refl e12 (Fc.keep K11 (ninS hbt nin0)) (Eb.keep K11) (Or.inl (hw _ (List.mem_of_getElem? (i := 131) rfl))) (hw _ (List.mem_of_getElem? (i := 91) rfl)) (ty := .int) (by decide) rfl rfl (g := (mkF m 203 #[.val (.ref b), .val (.ref x), .val (.int (0 : Int32)), .val (.int (Int32.ofNat i)), .unset, .unset, .unset, .unset] [(.int (Int32.ofNat (bs ++ cs.take i).length)), (.ref b)])) rfl rfl (hb hby d27_203)
  have N15 := Fr.snoc X15 N11 gb
  have Fw15 := (Fc.keep K11 (ninS hbt nin0)).same W15
  have c16 : Steps p.tables e below S0 (T15.setTop (mkF m 206 #[.val (.ref b), .val (.ref x), .val (.int (0 : Int32)), .val (.int (Int32.ofNat i)), .unset, .unset, .unset, .unset] [])) := c14.trans (by
    refine st15 _ ?_
    exact Steps.refl _)
  refine ⟨T15, none, _, _, _, X15, by decide, by decide, (fun _ => rfl), N15, ?_, fun fs hr => ?_⟩
  · rw [e15]
    exact ⟨rfl, ⟨((Eb.keep K11).wr W15), Fw15, ((Fo.keep K11 (ninS hbt nin0)).other W15 (Or.inr (slot_ne (Or.inl (hw _ (List.mem_of_getElem? (i := 107) rfl))) (Or.inl (hw _ (List.mem_of_getElem? (i := 131) rfl))) (by decide) (t := .byte) (t' := .int) (by decide) (by decide)))), ((Fv.keep K11 (ninS hbt nin0)).other W15 (Or.inr (slot_ne (Or.inl (hw _ (List.mem_of_getElem? (i := 105) rfl))) (Or.inl (hw _ (List.mem_of_getElem? (i := 131) rfl))) (by decide) (t := (.array .byte)) (t' := .int) (by decide) (by decide)))), (V11.other W15 (Ne.symm hbt)), ((Et.keep K11).wr W15), (by simp; omega), hL4, hbt, gb, gt⟩, (((Keep.refl h0 [b, t]).trans K11 (allS (Or.inl (List.mem_of_getElem? (i := 1) rfl)) all0)).wr W15 (Or.inl (List.mem_of_getElem? (i := 0) rfl)))⟩
  · exact c16.trans (X15.returnOut hx hret (hb hby d27_206) hr)
set_option maxRecDepth 65536 in
set_option maxHeartbeats 40000000 in
theorem rmCFTn (l : Launch) (Z : State) (a0 : Array Value) (hw : ∀ d ∈ tables_1, d.before a0 Z = true) (i n : Nat) (h0 : Heap) (O0 : Old Z Z.heap.size h0) (hi : i ≤ n) (hn : n < 2147483648) :
    own_NC l Z (⟨"jdk/internal/util/Preconditions", "checkFromToIndex", "(IIILjava/util/function/BiFunction;)I"⟩ : MethodName) jdk_41_method_12_code 4 (some .int) ({ frames := 0, cells := 0, slots := 0, locals := 0 } : Room) #[(.int (0 : Int32)), (.int (Int32.ofNat i)), (.int (Int32.ofNat n)), .null] h0 (fun v h => v = some (.int (0 : Int32)) ∧ h = h0) := by
  refine own_nc (plainFor_of_name (by first | (simp [plainName, overriddenIn]; done) | decide +kernel)) ?_
  intro p e s m below meth c s₁ S0 X0 hx hby hml hret hnm hown hZ e0 cc
  have N0 := Fr.nil Z.heap.size
  have c0 : Steps p.tables e below S0 (s₁.setTop (mkF m 0 #[.val (.int (0 : Int32)), .val (.int (Int32.ofNat i)), .val (.int (Int32.ofNat n)), .val .null] [])) := cc.trans (XT.entry rfl)
  have c1 : Steps p.tables e below S0 (s₁.setTop (mkF m 23 #[.val (.int (0 : Int32)), .val (.int (Int32.ofNat i)), .val (.int (Int32.ofNat n)), .val .null] [(.int (0 : Int32))])) := c0.trans (by
    refine XS.iloadN X0.here hx rfl (hb hby d25_0) rfl ?_
    refine XS.ifNo X0.here hx rfl (hb hby d25_1) rfl ((if0 _ _).trans (flt (by decide : ¬ ((0 : Int32) < (0 : Int32)))).1) ?_
    refine XS.iloadN X0.here hx rfl (hb hby d25_4) rfl ?_
    refine XS.iloadN X0.here hx rfl (hb hby d25_5) rfl ?_
    refine XS.icmpNo X0.here hx rfl (hb hby d25_6) rfl (flt (own_nneg (by omega))).2.2.1 ?_
    refine XS.iloadN X0.here hx rfl (hb hby d25_9) rfl ?_
    refine XS.iloadN X0.here hx rfl (hb hby d25_10) rfl ?_
    refine XS.icmpYes X0.here hx rfl (pc0 := 11) (pc' := 22) rfl (hb hby d25_11) rfl (flt (fun q => absurd ((own_lt32 (by omega) (by omega)).mp q) (by omega))).2.2.2 (by decide) (by decide) ?_
    refine XS.iloadN X0.here hx rfl (hb hby d25_22) rfl ?_
    show Steps p.tables e below (s₁.setTop (mkF m 23 #[.val (.int (0 : Int32)), .val (.int (Int32.ofNat i)), .val (.int (Int32.ofNat n)), .val .null] [(.int (0 : Int32))])) _
    exact Steps.refl _)
  refine ⟨s₁, (some (.int (0 : Int32))), _, _, _, X0, by decide, by decide, (fun q => by cases q), N0, ?_, fun fs hr => ?_⟩
  · rw [e0]
    exact ⟨rfl, rfl⟩
  · exact c1.trans (retI X0 hx hret (hb hby d25_23) hr)
set_option maxRecDepth 65536 in
set_option maxHeartbeats 40000000 in
theorem rmCFTr (l : Launch) (Z : State) (a0 : Array Value) (hw : ∀ d ∈ tables_1, d.before a0 Z = true) (i n : Nat) (fa : Addr) (h0 : Heap) (O0 : Old Z Z.heap.size h0) (hi : i ≤ n) (hn : n < 2147483648) :
    own_NC l Z (⟨"jdk/internal/util/Preconditions", "checkFromToIndex", "(IIILjava/util/function/BiFunction;)I"⟩ : MethodName) jdk_41_method_12_code 4 (some .int) ({ frames := 0, cells := 0, slots := 0, locals := 0 } : Room) #[(.int (0 : Int32)), (.int (Int32.ofNat i)), (.int (Int32.ofNat n)), (.ref fa)] h0 (fun v h => v = some (.int (0 : Int32)) ∧ h = h0) := by
  refine own_nc (plainFor_of_name (by first | (simp [plainName, overriddenIn]; done) | decide +kernel)) ?_
  intro p e s m below meth c s₁ S0 X0 hx hby hml hret hnm hown hZ e0 cc
  have N0 := Fr.nil Z.heap.size
  have c0 : Steps p.tables e below S0 (s₁.setTop (mkF m 0 #[.val (.int (0 : Int32)), .val (.int (Int32.ofNat i)), .val (.int (Int32.ofNat n)), .val (.ref fa)] [])) := cc.trans (XT.entry rfl)
  have c1 : Steps p.tables e below S0 (s₁.setTop (mkF m 23 #[.val (.int (0 : Int32)), .val (.int (Int32.ofNat i)), .val (.int (Int32.ofNat n)), .val (.ref fa)] [(.int (0 : Int32))])) := c0.trans (by
    refine XS.iloadN X0.here hx rfl (hb hby d25_0) rfl ?_
    refine XS.ifNo X0.here hx rfl (hb hby d25_1) rfl ((if0 _ _).trans (flt (by decide : ¬ ((0 : Int32) < (0 : Int32)))).1) ?_
    refine XS.iloadN X0.here hx rfl (hb hby d25_4) rfl ?_
    refine XS.iloadN X0.here hx rfl (hb hby d25_5) rfl ?_
    refine XS.icmpNo X0.here hx rfl (hb hby d25_6) rfl (flt (own_nneg (by omega))).2.2.1 ?_
    refine XS.iloadN X0.here hx rfl (hb hby d25_9) rfl ?_
    refine XS.iloadN X0.here hx rfl (hb hby d25_10) rfl ?_
    refine XS.icmpYes X0.here hx rfl (pc0 := 11) (pc' := 22) rfl (hb hby d25_11) rfl (flt (fun q => absurd ((own_lt32 (by omega) (by omega)).mp q) (by omega))).2.2.2 (by decide) (by decide) ?_
    refine XS.iloadN X0.here hx rfl (hb hby d25_22) rfl ?_
    show Steps p.tables e below (s₁.setTop (mkF m 23 #[.val (.int (0 : Int32)), .val (.int (Int32.ofNat i)), .val (.int (Int32.ofNat n)), .val (.ref fa)] [(.int (0 : Int32))])) _
    exact Steps.refl _)
  refine ⟨s₁, (some (.int (0 : Int32))), _, _, _, X0, by decide, by decide, (fun q => by cases q), N0, ?_, fun fs hr => ?_⟩
  · rw [e0]
    exact ⟨rfl, rfl⟩
  · exact c1.trans (retI X0 hx hret (hb hby d25_23) hr)
theorem rmCFT (l : Launch) (Z : State) (a0 : Array Value) (hw : ∀ d ∈ tables_1, d.before a0 Z = true) (i n : Nat) (fo : Value) (h0 : Heap) (O0 : Old Z Z.heap.size h0) (hi : i ≤ n) (hn : n < 2147483648) (hfo : fo.isRef = true) : own_NC l Z (⟨"jdk/internal/util/Preconditions", "checkFromToIndex", "(IIILjava/util/function/BiFunction;)I"⟩ : MethodName) jdk_41_method_12_code 4 (some .int) ({ frames := 0, cells := 0, slots := 0, locals := 0 } : Room) #[(.int (0 : Int32)), (.int (Int32.ofNat i)), (.int (Int32.ofNat n)), fo] h0 (fun v h => v = some (.int (0 : Int32)) ∧ h = h0) := by
  rcases ref_cases hfo with rfl | ⟨fa, rfl⟩
  · exact rmCFTn l Z a0 hw i n h0 O0 hi hn
  · exact rmCFTr l Z a0 hw i n fa h0 O0 hi hn
set_option maxRecDepth 65536 in
set_option maxHeartbeats 40000000 in
theorem rmACS (l : Launch) (Z : State) (a0 : Array Value) (hw : ∀ d ∈ tables_1, d.before a0 Z = true) (b t : Addr) (kb : ClassId) (L : Nat) (bs : List Int32) (cs : List Int32) (x u : Addr) (ku : ClassId) (i : Nat) (z : Int32) (fm : Value) (fo : Value) (h0 : Heap) (O0 : Old Z Z.heap.size h0) (hsb : own_SB Z h0 b t kb L bs) (E : Exa Z h0 x "java/lang/String") (V : Fld Z h0 x "java/lang/String" "value" "[B" (.ref u)) (Cd : Fld Z h0 x "java/lang/String" "coder" "B" (.int (0 : Int32))) (K : Arv Z h0 u ku .byte (Int32.ofNat (cs : List Int32).length) (((cs : List Int32).map (fun c : Int32 => c.toInt8.toInt32)).map Value.int) (.int (0 : Int32))) (n1 : x ≠ b) (n2 : x ≠ t) (n3 : u ≠ b) (n4 : u ≠ t) (hi : i ≤ cs.length) (hcs : cs.length ≤ 4000) (hf : bs.length + i ≤ L) (SC : Sta Z Z.heap "java/lang/String" "COMPACT_STRINGS" "Z" (.int z)) (hz : ¬ z = 0) (SF : Sta Z Z.heap "jdk/internal/util/Preconditions" "SIOOBE_FORMATTER" "Ljava/util/function/BiFunction;" fm) (hfm : fm.isRef = true) (hB : ∀ c ∈ cs, own_B c) (SI : Sta Z Z.heap "jdk/internal/util/Preconditions" "IOOBE_FORMATTER" "Ljava/util/function/BiFunction;" fo) (hfo : fo.isRef = true) :
    own_NC l Z (⟨"java/lang/AbstractStringBuilder", "append", "(Ljava/lang/CharSequence;II)Ljava/lang/AbstractStringBuilder;"⟩ : MethodName) jdk_68_method_27_code 5 (some (.object "java/lang/AbstractStringBuilder")) ({ frames := 2, cells := 0, slots := 0, locals := 59 } : Room) #[(.ref b), (.ref x), (.int (0 : Int32)), (.int (Int32.ofNat i))] h0 (fun v h => v = some (.ref b) ∧ own_SB Z h b t kb L (bs ++ cs.take i) ∧ Keep h0 h [b, t]) := by
  refine own_nc (plainFor_of_name (by first | (simp [plainName, overriddenIn]; done) | decide +kernel)) ?_
  intro p e s m below meth c s₁ S0 X0 hx hby hml hret hnm hown hZ e0 cc
  have N0 := Fr.nil Z.heap.size
  have c0 : Steps p.tables e below S0 (s₁.setTop (mkF m 0 #[.val (.ref b), .val (.ref x), .val (.int (0 : Int32)), .val (.int (Int32.ofNat i)), .unset] [])) := cc.trans (XT.entry rfl)
  obtain ⟨Eb, Fc, Fo, Fv, Vt, Et, hle, hL4, hbt, gb, gt⟩ := id hsb
  have c1 : Steps p.tables e below S0 (s₁.setTop (mkF m 10 #[.val (.ref b), .val (.ref x), .val (.int (0 : Int32)), .val (.int (Int32.ofNat i)), .unset] [(.ref x), (.int (Int32.ofNat i)), (.int (0 : Int32))])) := c0.trans (by
    refine XS.aloadN X0.here hx rfl (hb hby d24_0) rfl rfl ?_
    refine XS.ifnonnullYes X0.here hx rfl (pc0 := 1) (pc' := 7) rfl (hb hby d24_1) rfl (by decide) (by decide) ?_
    refine XS.iloadN X0.here hx rfl (hb hby d24_7) rfl ?_
    refine XS.iloadN X0.here hx rfl (hb hby d24_8) rfl ?_
    refine XS.aloadN X0.here hx rfl (hb hby d24_9) rfl rfl ?_
    exact Steps.refl _)
  obtain ⟨v2, T2, L2, X2, ⟨rfl, rfl, e2⟩, c2'⟩ := own_face X0 hx hml hZ hown (hw _ (List.mem_of_getElem? (i := 118) rfl)) (hw _ (List.mem_of_getElem? (i := 119) rfl)) (mvT hZ (hw _ (List.mem_of_getElem? (i := 120) rfl))) (hw _ (List.mem_of_getElem? (i := 121) rfl)) (hw _ (List.mem_of_getElem? (i := 36) rfl)) (hw _ (List.mem_of_getElem? (i := 122) rfl)) (hw _ (List.mem_of_getElem? (i := 123) rfl)) (hw _ (List.mem_of_getElem? (i := 124) rfl)) (by decide) (Q := fun v h' L => v = some (.int (Int32.ofNat (cs : List Int32).length)) ∧ L = [] ∧ h' = h0) (kc := 0) (ks := 0) (h := h0) (W := 2) (b := x) (argsL := []) (rest := [(.int (Int32.ofNat i)), (.int (0 : Int32))]) (StrChars.Road.lenW (s := s) (R := ({ frames := 2, cells := 0, slots := 0, locals := 59 } : Room)) (W := 2) hZ (own_wl hw) (kI := 4) (hw _ (List.mem_of_getElem? (i := 9) rfl)) (cs := cs) E V Cd K (StrChars.Road.codOf (n := (cs : List Int32).length) rfl (fun c hc => (hB c hc).rng.2)) (fun c hc => (hB c hc).rng2) (SC.ext O0.2) hz hcs (by decide) (by decide)) E c1 (lenOf pd_9 rfl) rfl (hb hby d24_10) e0
  have N2 := Fr.app N0 (Fr.nil _)
  have c2 : Steps p.tables e below S0 (T2.setTop (mkF m 15 #[.val (.ref b), .val (.ref x), .val (.int (0 : Int32)), .val (.int (Int32.ofNat i)), .unset] [(.int (Int32.ofNat (cs : List Int32).length)), (.int (Int32.ofNat i)), (.int (0 : Int32))])) := c2'
  obtain ⟨T3, X3, e3, st3⟩ := getS2 X2 hx hZ hown (host := "") (Or.inl (hw _ (List.mem_of_getElem? (i := 125) rfl))) Via.refl e2 (SI.ext O0.2) (g := (mkF m 15 #[.val (.ref b), .val (.ref x), .val (.int (0 : Int32)), .val (.int (Int32.ofNat i)), .unset] [(.int (Int32.ofNat (cs : List Int32).length)), (.int (Int32.ofNat i)), (.int (0 : Int32))])) rfl (hb hby d24_15)
  have c4 : Steps p.tables e below S0 (T3.setTop (mkF m 18 #[.val (.ref b), .val (.ref x), .val (.int (0 : Int32)), .val (.int (Int32.ofNat i)), .unset] [fo, (.int (Int32.ofNat (cs : List Int32).length)), (.int (Int32.ofNat i)), (.int (0 : Int32))])) := c2.trans (by
    refine st3 _ ?_
    exact Steps.refl _)
  obtain ⟨v5, T5, L5, X5, ⟨N5', rfl, e5⟩, c5'⟩ := own_stat X3 hx hml hZ hown (hw _ (List.mem_of_getElem? (i := 127) rfl)) (hw _ (List.mem_of_getElem? (i := 128) rfl)) (hw _ (List.mem_of_getElem? (i := 83) rfl)) (hw _ (List.mem_of_getElem? (i := 129) rfl)) (by decide) (kc := 0) (ks := 0) (h := h0) (W := 0) (argsL := [(.int (0 : Int32)), (.int (Int32.ofNat i)), (.int (Int32.ofNat (cs : List Int32).length)), fo]) (rest := []) (own_pay (W := 0) (rmCFT l Z a0 hw i cs.length fo h0 O0 hi (by omega) hfo) hZ (hw _ (List.mem_of_getElem? (i := 129) rfl)) (hw _ (List.mem_of_getElem? (i := 83) rfl)) (by decide) (by decide)) c4 (lenOf pd_10 rfl) rfl (hb hby d24_18) e3
  have N5 := Fr.app N2 N5'
  have c5 : Steps p.tables e below S0 (T5.setTop (mkF m 21 #[.val (.ref b), .val (.ref x), .val (.int (0 : Int32)), .val (.int (Int32.ofNat i)), .unset] [(.int (0 : Int32))])) := c5'
  have c6 : Steps p.tables e below S0 (T5.setTop (mkF m 25 #[.val (.ref b), .val (.ref x), .val (.int (0 : Int32)), .val (.int (Int32.ofNat i)), .unset] [(.int ((Int32.ofNat i) - (0 : Int32)))])) := c5.trans (by
    refine XS.pop X5.here hx rfl (hb hby d24_21) rfl rfl ?_
    refine XS.iloadN X5.here hx rfl (hb hby d24_22) rfl ?_
    refine XS.iloadN X5.here hx rfl (hb hby d24_23) rfl ?_
    refine XS.isub X5.here hx rfl (hb hby d24_24) rfl ?_
    exact Steps.refl _)
  have eq7 : ((Int32.ofNat i) - (0 : Int32)) = (Int32.ofNat i) := own_sub00 _
  have c7 : Steps p.tables e below S0 (T5.setTop (mkF m 25 #[.val (.ref b), .val (.ref x), .val (.int (0 : Int32)), .val (.int (Int32.ofNat i)), .unset] [(.int (Int32.ofNat i))])) := by have q := c6; rw [eq7] at q; exact q
  obtain ⟨T8, X8, e8, st8⟩ := getF X5 hx hZ hown (host := "") (Or.inl (hw _ (List.mem_of_getElem? (i := 130) rfl))) Via.refl e5 Fc (g := (mkF m 29 #[.val (.ref b), .val (.ref x), .val (.int (0 : Int32)), .val (.int (Int32.ofNat i)), .val (.int (Int32.ofNat i))] [(.ref b), (.ref b)])) rfl rfl (hb hby d24_29)
  have c9 : Steps p.tables e below S0 (T8.setTop (mkF m 35 #[.val (.ref b), .val (.ref x), .val (.int (0 : Int32)), .val (.int (Int32.ofNat i)), .val (.int (Int32.ofNat i))] [(.int ((Int32.ofNat bs.length) + (Int32.ofNat i))), (.ref b)])) := c7.trans (by
    refine XS.istore X5.here hx rfl (hb hby d24_25) rfl (l' := #[.val (.ref b), .val (.ref x), .val (.int (0 : Int32)), .val (.int (Int32.ofNat i)), .val (.int (Int32.ofNat i))]) rfl ?_
    refine XS.aloadN X5.here hx rfl (hb hby d24_27) rfl rfl ?_
    refine XS.aloadN X5.here hx rfl (hb hby d24_28) rfl rfl ?_
    refine st8 _ ?_
    show Steps p.tables e below (T8.setTop (mkF m 32 #[.val (.ref b), .val (.ref x), .val (.int (0 : Int32)), .val (.int (Int32.ofNat i)), .val (.int (Int32.ofNat i))] [(.int (Int32.ofNat bs.length)), (.ref b)])) _
    refine XS.iload X8.here hx rfl (hb hby d24_32) rfl ?_
    refine XS.iadd X8.here hx rfl (hb hby d24_34) rfl ?_
    exact Steps.refl _)
  have eq10 : ((Int32.ofNat bs.length) + (Int32.ofNat i)) = (Int32.ofNat (bs.length + i)) := own_addN _ _
  have c10 : Steps p.tables e below S0 (T8.setTop (mkF m 35 #[.val (.ref b), .val (.ref x), .val (.int (0 : Int32)), .val (.int (Int32.ofNat i)), .val (.int (Int32.ofNat i))] [(.int (Int32.ofNat (bs.length + i))), (.ref b)])) := by have q := c9; rw [eq10] at q; exact q
  obtain ⟨v11, T11, L11, X11, ⟨N11', rfl, e11⟩, c11'⟩ := own_virt X8 hx hml hZ hown (hw _ (List.mem_of_getElem? (i := 132) rfl)) (own_decl (hw _ (List.mem_of_getElem? (i := 133) rfl)) (hw _ (List.mem_of_getElem? (i := 136) rfl))) (hw _ (List.mem_of_getElem? (i := 135) rfl)) (hw _ (List.mem_of_getElem? (i := 133) rfl)) (hw _ (List.mem_of_getElem? (i := 135) rfl)) (by decide) (kc := 0) (ks := 0) (h := h0) (W := 0) (b := b) (argsL := [(.int (Int32.ofNat (bs.length + i)))]) (rest := []) (own_pay (W := 0) (rmEnsN l Z a0 hw b t kb L bs (bs.length + i) h0 O0 hsb hf) hZ (hw _ (List.mem_of_getElem? (i := 136) rfl)) (hw _ (List.mem_of_getElem? (i := 100) rfl)) (by decide) (by decide)) Eb c10 (lenOf pd_4 rfl) rfl (hb hby d24_35) e8
  have N11 := Fr.app N5 N11'
  have c11 : Steps p.tables e below S0 (T11.setTop (mkF m 38 #[.val (.ref b), .val (.ref x), .val (.int (0 : Int32)), .val (.int (Int32.ofNat i)), .val (.int (Int32.ofNat i))] [])) := c11'
  obtain ⟨T12, X12, e12, st12⟩ := instY X11 hx hZ hown (hw _ (List.mem_of_getElem? (i := 137) rfl)) e11 (Ins.self E) (g := (mkF m 39 #[.val (.ref b), .val (.ref x), .val (.int (0 : Int32)), .val (.int (Int32.ofNat i)), .val (.int (Int32.ofNat i))] [(.ref x)])) rfl rfl (hb hby d24_39)
  obtain ⟨T13, X13, e13, st13⟩ := castY X12 hx hZ hown (hw _ (List.mem_of_getElem? (i := 137) rfl)) e12 (Ins.self E) (g := (mkF m 47 #[.val (.ref b), .val (.ref x), .val (.int (0 : Int32)), .val (.int (Int32.ofNat i)), .val (.int (Int32.ofNat i))] [(.ref x), (.ref b)])) rfl rfl (hb hby d24_47)
  have c14 : Steps p.tables e below S0 (T13.setTop (mkF m 52 #[.val (.ref b), .val (.ref x), .val (.int (0 : Int32)), .val (.int (Int32.ofNat i)), .val (.int (Int32.ofNat i))] [(.int (Int32.ofNat i)), (.int (0 : Int32)), (.ref x), (.ref b)])) := c11.trans (by
    refine XS.aloadN X11.here hx rfl (hb hby d24_38) rfl rfl ?_
    refine st12 _ ?_
    refine XS.ifNo X12.here hx rfl (hb hby d24_42) rfl ((if0 _ _).trans (feq (by decide : ¬ ((1 : Int32) = (0 : Int32)))).1) ?_
    refine XS.aloadN X12.here hx rfl (hb hby d24_45) rfl rfl ?_
    refine XS.aloadN X12.here hx rfl (hb hby d24_46) rfl rfl ?_
    refine st13 _ ?_
    show Steps p.tables e below (T13.setTop (mkF m 50 #[.val (.ref b), .val (.ref x), .val (.int (0 : Int32)), .val (.int (Int32.ofNat i)), .val (.int (Int32.ofNat i))] [(.ref x), (.ref b)])) _
    refine XS.iloadN X13.here hx rfl (hb hby d24_50) rfl ?_
    refine XS.iloadN X13.here hx rfl (hb hby d24_51) rfl ?_
    exact Steps.refl _)
  obtain ⟨v15, T15, L15, X15, ⟨N15', rfl, SB15, K15⟩, c15'⟩ := own_virt X13 hx hml hZ hown (hw _ (List.mem_of_getElem? (i := 138) rfl)) (own_decl (hw _ (List.mem_of_getElem? (i := 139) rfl)) (hw _ (List.mem_of_getElem? (i := 142) rfl))) (hw _ (List.mem_of_getElem? (i := 141) rfl)) (hw _ (List.mem_of_getElem? (i := 139) rfl)) (hw _ (List.mem_of_getElem? (i := 141) rfl)) (by decide) (kc := 0) (ks := 0) (h := h0) (W := 0) (b := b) (argsL := [(.ref x), (.int (0 : Int32)), (.int (Int32.ofNat i))]) (rest := []) (own_pay (W := 0) (rmApc l Z a0 hw b t kb L bs cs x u ku i z fm h0 O0 hsb E V Cd K n1 n2 n3 n4 hi hcs hf SC hz SF hfm) hZ (hw _ (List.mem_of_getElem? (i := 142) rfl)) (hw _ (List.mem_of_getElem? (i := 100) rfl)) (by decide) (by decide)) Eb c14 (lenOf pd_11 rfl) rfl (hb hby d24_52) e13
  have N15 := Fr.app N11 N15'
  have c15 : Steps p.tables e below S0 (T15.setTop (mkF m 55 #[.val (.ref b), .val (.ref x), .val (.int (0 : Int32)), .val (.int (Int32.ofNat i)), .val (.int (Int32.ofNat i))] [])) := c15'
  have c16 : Steps p.tables e below S0 (T15.setTop (mkF m 66 #[.val (.ref b), .val (.ref x), .val (.int (0 : Int32)), .val (.int (Int32.ofNat i)), .val (.int (Int32.ofNat i))] [(.ref b)])) := c15.trans (by
    refine XS.goto X15.here hx rfl (pc0 := 55) (pc' := 65) rfl (hb hby d24_55) (by decide) (by decide) ?_
    refine XS.aloadN X15.here hx rfl (hb hby d24_65) rfl rfl ?_
    exact Steps.refl _)
  refine ⟨T15, (some (.ref b)), _, _, _, X15, by decide, by decide, (fun q => by cases q), N15, ?_, fun fs hr => ?_⟩
  · skip
    exact ⟨rfl, SB15, K15⟩
  · exact own_retR X15 hx c16 hret rfl rfl (hb hby d24_66) hr
set_option maxRecDepth 65536 in
set_option maxHeartbeats 40000000 in
theorem rmSCS (l : Launch) (Z : State) (a0 : Array Value) (hw : ∀ d ∈ tables_1, d.before a0 Z = true) (b t : Addr) (kb : ClassId) (L : Nat) (bs : List Int32) (cs : List Int32) (x u : Addr) (ku : ClassId) (i : Nat) (z : Int32) (fm : Value) (fo : Value) (h0 : Heap) (O0 : Old Z Z.heap.size h0) (hsb : own_SB Z h0 b t kb L bs) (E : Exa Z h0 x "java/lang/String") (V : Fld Z h0 x "java/lang/String" "value" "[B" (.ref u)) (Cd : Fld Z h0 x "java/lang/String" "coder" "B" (.int (0 : Int32))) (K : Arv Z h0 u ku .byte (Int32.ofNat (cs : List Int32).length) (((cs : List Int32).map (fun c : Int32 => c.toInt8.toInt32)).map Value.int) (.int (0 : Int32))) (n1 : x ≠ b) (n2 : x ≠ t) (n3 : u ≠ b) (n4 : u ≠ t) (hi : i ≤ cs.length) (hcs : cs.length ≤ 4000) (hf : bs.length + i ≤ L) (SC : Sta Z Z.heap "java/lang/String" "COMPACT_STRINGS" "Z" (.int z)) (hz : ¬ z = 0) (SF : Sta Z Z.heap "jdk/internal/util/Preconditions" "SIOOBE_FORMATTER" "Ljava/util/function/BiFunction;" fm) (hfm : fm.isRef = true) (hB : ∀ c ∈ cs, own_B c) (SI : Sta Z Z.heap "jdk/internal/util/Preconditions" "IOOBE_FORMATTER" "Ljava/util/function/BiFunction;" fo) (hfo : fo.isRef = true) :
    own_NC l Z (⟨"java/lang/StringBuilder", "append", "(Ljava/lang/CharSequence;II)Ljava/lang/StringBuilder;"⟩ : MethodName) jdk_67_method_10_code 4 (some (.object "java/lang/StringBuilder")) ({ frames := 3, cells := 0, slots := 0, locals := 75 } : Room) #[(.ref b), (.ref x), (.int (0 : Int32)), (.int (Int32.ofNat i))] h0 (fun v h => v = some (.ref b) ∧ own_SB Z h b t kb L (bs ++ cs.take i) ∧ Keep h0 h [b, t]) := by
  refine own_nc (plainFor_of_name (by first | (simp [plainName, overriddenIn]; done) | decide +kernel)) ?_
  intro p e s m below meth c s₁ S0 X0 hx hby hml hret hnm hown hZ e0 cc
  have N0 := Fr.nil Z.heap.size
  have c0 : Steps p.tables e below S0 (s₁.setTop (mkF m 0 #[.val (.ref b), .val (.ref x), .val (.int (0 : Int32)), .val (.int (Int32.ofNat i))] [])) := cc.trans (XT.entry rfl)
  obtain ⟨Eb, Fc, Fo, Fv, Vt, Et, hle, hL4, hbt, gb, gt⟩ := id hsb
  have c1 : Steps p.tables e below S0 (s₁.setTop (mkF m 4 #[.val (.ref b), .val (.ref x), .val (.int (0 : Int32)), .val (.int (Int32.ofNat i))] [(.int (Int32.ofNat i)), (.int (0 : Int32)), (.ref x), (.ref b)])) := c0.trans (by
    refine XS.aloadN X0.here hx rfl (hb hby d23_0) rfl rfl ?_
    refine XS.aloadN X0.here hx rfl (hb hby d23_1) rfl rfl ?_
    refine XS.iloadN X0.here hx rfl (hb hby d23_2) rfl ?_
    refine XS.iloadN X0.here hx rfl (hb hby d23_3) rfl ?_
    exact Steps.refl _)
  obtain ⟨v2, T2, L2, X2, ⟨N2', rfl, SB2, K2⟩, c2'⟩ := own_super X0 hx hml hZ hown (by decide) (hw _ (List.mem_of_getElem? (i := 113) rfl)) (own_same (y2 := (⟨"java/lang/AbstractStringBuilder", "ensureCapacityInternal", "(I)V"⟩ : MethodName)) rfl (hw _ (List.mem_of_getElem? (i := 114) rfl)) (hw _ (List.mem_of_getElem? (i := 133) rfl)) (hw _ (List.mem_of_getElem? (i := 135) rfl)) (by decide)) (hw _ (List.mem_of_getElem? (i := 114) rfl)) (hw _ (List.mem_of_getElem? (i := 115) rfl)) (hw _ (List.mem_of_getElem? (i := 117) rfl)) (kc := 0) (ks := 0) (h := h0) (W := 0) (b := b) (argsL := [(.ref x), (.int (0 : Int32)), (.int (Int32.ofNat i))]) (rest := []) (own_pay (W := 0) (rmACS l Z a0 hw b t kb L bs cs x u ku i z fm fo h0 O0 hsb E V Cd K n1 n2 n3 n4 hi hcs hf SC hz SF hfm hB SI hfo) hZ (hw _ (List.mem_of_getElem? (i := 117) rfl)) (hw _ (List.mem_of_getElem? (i := 100) rfl)) (by decide) (by decide)) Eb c1 (lenOf pd_12 rfl) rfl (hb hby d23_4) e0
  have N2 := Fr.app N0 N2'
  have c2 : Steps p.tables e below S0 (T2.setTop (mkF m 7 #[.val (.ref b), .val (.ref x), .val (.int (0 : Int32)), .val (.int (Int32.ofNat i))] [(.ref b)])) := c2'
  have c3 : Steps p.tables e below S0 (T2.setTop (mkF m 9 #[.val (.ref b), .val (.ref x), .val (.int (0 : Int32)), .val (.int (Int32.ofNat i))] [(.ref b)])) := c2.trans (by
    refine XS.pop X2.here hx rfl (hb hby d23_7) rfl rfl ?_
    refine XS.aloadN X2.here hx rfl (hb hby d23_8) rfl rfl ?_
    exact Steps.refl _)
  refine ⟨T2, (some (.ref b)), _, _, _, X2, by decide, by decide, (fun q => by cases q), N2, ?_, fun fs hr => ?_⟩
  · skip
    exact ⟨rfl, SB2, K2⟩
  · exact own_retR X2 hx c3 hret rfl rfl (hb hby d23_9) hr
set_option maxRecDepth 65536 in
set_option maxHeartbeats 40000000 in
theorem rmCL (l : Launch) (Z : State) (a0 : Array Value) (hw : ∀ d ∈ tables_1, d.before a0 Z = true) (n : Nat) (h0 : Heap) (O0 : Old Z Z.heap.size h0) (hn : n < 2147483648) :
    own_NC l Z (⟨"java/util/Arrays", "checkLength", "(II)V"⟩ : MethodName) jdk_65_method_131_code 2 none ({ frames := 0, cells := 0, slots := 0, locals := 0 } : Room) #[(.int (0 : Int32)), (.int (Int32.ofNat n))] h0 (fun v h => v = none ∧ h = h0) := by
  refine own_nc (plainFor_of_name (by first | (simp [plainName, overriddenIn]; done) | decide +kernel)) ?_
  intro p e s m below meth c s₁ S0 X0 hx hby hml hret hnm hown hZ e0 cc
  have N0 := Fr.nil Z.heap.size
  have c0 : Steps p.tables e below S0 (s₁.setTop (mkF m 0 #[.val (.int (0 : Int32)), .val (.int (Int32.ofNat n))] [])) := cc.trans (XT.entry rfl)
  have c1 : Steps p.tables e below S0 (s₁.setTop (mkF m 37 #[.val (.int (0 : Int32)), .val (.int (Int32.ofNat n))] [])) := c0.trans (by
    refine XS.iloadN X0.here hx rfl (hb hby d46_0) rfl ?_
    refine XS.iloadN X0.here hx rfl (hb hby d46_1) rfl ?_
    refine XS.icmpYes X0.here hx rfl (pc0 := 2) (pc' := 37) rfl (hb hby d46_2) rfl (flt (own_nneg hn)).2.1 (by decide) (by decide) ?_
    exact Steps.refl _)
  refine ⟨s₁, none, _, _, _, X0, by decide, by decide, (fun _ => rfl), N0, ?_, fun fs hr => ?_⟩
  · rw [e0]
    exact ⟨rfl, rfl⟩
  · exact c1.trans (X0.returnOut hx hret (hb hby d46_37) hr)
set_option maxRecDepth 65536 in
set_option maxHeartbeats 40000000 in
theorem rmCORB (l : Launch) (Z : State) (a0 : Array Value) (hw : ∀ d ∈ tables_1, d.before a0 Z = true) (t : Addr) (kb : ClassId) (L : Nat) (bs : List Int32) (h0 : Heap) (O0 : Old Z Z.heap.size h0) (Vt : Arv Z h0 t kb .byte (Int32.ofNat L) (own_bv bs) (.int (0 : Int32))) (Et : Exa Z h0 t "[B") (hle : bs.length ≤ L) (hL4 : L ≤ 4000) (ho : bs.length ≤ 8) :
    own_NC l Z (⟨"java/util/Arrays", "copyOfRangeByte", "([BII)[B"⟩ : MethodName) jdk_65_method_133_code 5 (some (.array .byte)) ({ frames := 1, cells := 1, slots := 8, locals := 40 } : Room) #[(.ref t), (.int (0 : Int32)), (.int (Int32.ofNat bs.length))] h0 (fun v h => ∃ (t2 : Addr) (kb2 : ClassId), v = some (.ref t2) ∧ Keep h0 h [] ∧ h0.size ≤ t2 ∧ Arv Z h t2 kb2 .byte (Int32.ofNat bs.length) (own_bv bs) (.int (0 : Int32))) := by
  refine own_nc (plainFor_of_name (by first | (simp [plainName, overriddenIn]; done) | decide +kernel)) ?_
  intro p e s m below meth c s₁ S0 X0 hx hby hml hret hnm hown hZ e0 cc
  have N0 := Fr.nil Z.heap.size
  have c0 : Steps p.tables e below S0 (s₁.setTop (mkF m 0 #[.val (.ref t), .val (.int (0 : Int32)), .val (.int (Int32.ofNat bs.length)), .unset, .unset] [])) := cc.trans (XT.entry rfl)
  have c1 : Steps p.tables e below S0 (s₁.setTop (mkF m 2 #[.val (.ref t), .val (.int (0 : Int32)), .val (.int (Int32.ofNat bs.length)), .unset, .unset] [(.int (Int32.ofNat bs.length)), (.int (0 : Int32))])) := c0.trans (by
    refine XS.iloadN X0.here hx rfl (hb hby d45_0) rfl ?_
    refine XS.iloadN X0.here hx rfl (hb hby d45_1) rfl ?_
    exact Steps.refl _)
  obtain ⟨v2, T2, L2, X2, ⟨N2', rfl, e2⟩, c2'⟩ := own_stat X0 hx hml hZ hown (hw _ (List.mem_of_getElem? (i := 235) rfl)) (hw _ (List.mem_of_getElem? (i := 236) rfl)) (hw _ (List.mem_of_getElem? (i := 198) rfl)) (hw _ (List.mem_of_getElem? (i := 237) rfl)) (by decide) (kc := 0) (ks := 0) (h := h0) (W := 0) (argsL := [(.int (0 : Int32)), (.int (Int32.ofNat bs.length))]) (rest := []) (own_pay (W := 0) (rmCL l Z a0 hw bs.length h0 O0 (by omega)) hZ (hw _ (List.mem_of_getElem? (i := 237) rfl)) (hw _ (List.mem_of_getElem? (i := 198) rfl)) (by decide) (by decide)) c1 (lenOf pd_13 rfl) rfl (hb hby d45_2) e0
  have N2 := Fr.app N0 N2'
  have c2 : Steps p.tables e below S0 (T2.setTop (mkF m 5 #[.val (.ref t), .val (.int (0 : Int32)), .val (.int (Int32.ofNat bs.length)), .unset, .unset] [])) := c2'
  have c3 : Steps p.tables e below S0 (T2.setTop (mkF m 8 #[.val (.ref t), .val (.int (0 : Int32)), .val (.int (Int32.ofNat bs.length)), .unset, .unset] [(.int ((Int32.ofNat bs.length) - (0 : Int32)))])) := c2.trans (by
    refine XS.iloadN X2.here hx rfl (hb hby d45_5) rfl ?_
    refine XS.iloadN X2.here hx rfl (hb hby d45_6) rfl ?_
    refine XS.isub X2.here hx rfl (hb hby d45_7) rfl ?_
    exact Steps.refl _)
  have eq4 : ((Int32.ofNat bs.length) - (0 : Int32)) = (Int32.ofNat bs.length) := own_sub00 _
  have c4 : Steps p.tables e below S0 (T2.setTop (mkF m 8 #[.val (.ref t), .val (.int (0 : Int32)), .val (.int (Int32.ofNat bs.length)), .unset, .unset] [(.int (Int32.ofNat bs.length))])) := by have q := c3; rw [eq4] at q; exact q
  obtain ⟨T5, h5, k5, X5, e5, E5, A5, Ev5, st5⟩ := newPE X2 hx hZ (hw _ (List.mem_of_getElem? (i := 23) rfl)) e2 (g := (mkF m 10 #[.val (.ref t), .val (.int (0 : Int32)), .val (.int (Int32.ofNat bs.length)), .val (.int (Int32.ofNat bs.length)), .unset] [(.int (Int32.ofNat bs.length))])) rfl (hb hby d45_10) rfl (own_nneg (by omega)) (cap := 8) (by rw [own_clamp (by omega)]; exact ho) (by decide) (by decide) (by decide) (ad := "[B") rfl
  obtain ⟨b5, g5⟩ : ∃ z, z = h0.size := ⟨_, rfl⟩
  rw [← g5] at A5 Ev5 st5
  have lo5 : h0.size ≤ b5 := Nat.le_of_eq g5.symm
  have ge5 : Z.heap.size ≤ b5 := Nat.le_trans O0.2.1 lo5
  have V5 := Arv.new A5 (own_nneg (by omega))
  obtain ⟨cl6, Ar6, q6, S6, M6, H6, G6⟩ := id (Vt.ext E5)
  have c7 : Steps p.tables e below S0 (T5.setTop (mkF m 23 #[.val (.ref t), .val (.int (0 : Int32)), .val (.int (Int32.ofNat bs.length)), .val (.int (Int32.ofNat bs.length)), .val (.ref b5)] [(.int ((Int32.ofNat L) - (0 : Int32))), (.int (0 : Int32)), (.ref b5), (.int (0 : Int32)), (.ref t)])) := c4.trans (by
    refine XS.istoreN X2.here hx rfl (hb hby d45_8) rfl (l' := #[.val (.ref t), .val (.int (0 : Int32)), .val (.int (Int32.ofNat bs.length)), .val (.int (Int32.ofNat bs.length)), .unset]) rfl ?_
    refine XS.iloadN X2.here hx rfl (hb hby d45_9) rfl ?_
    refine st5 _ ?_
    refine XS.astore X5.here hx rfl (hb hby d45_12) rfl rfl (l' := #[.val (.ref t), .val (.int (0 : Int32)), .val (.int (Int32.ofNat bs.length)), .val (.int (Int32.ofNat bs.length)), .val (.ref b5)]) rfl ?_
    refine XS.aloadN X5.here hx rfl (hb hby d45_14) rfl rfl ?_
    refine XS.iloadN X5.here hx rfl (hb hby d45_15) rfl ?_
    refine XS.aload X5.here hx rfl (hb hby d45_16) rfl rfl ?_
    refine XS.iconst X5.here hx rfl (hb hby d45_18) ?_
    refine XS.aloadN X5.here hx rfl (hb hby d45_19) rfl rfl ?_
    show Steps p.tables e below (T5.setTop (mkF m 20 #[.val (.ref t), .val (.int (0 : Int32)), .val (.int (Int32.ofNat bs.length)), .val (.int (Int32.ofNat bs.length)), .val (.ref b5)] [(.ref t), (.int (0 : Int32)), (.ref b5), (.int (0 : Int32)), (.ref t)])) _
    refine X5.arraylength hx (by rw [show T5.heap = h5 from e5]; exact Ar6.1) (State.isArrayOf_alike (hZ).alike Ar6.2.1) (g := (mkF m 20 #[.val (.ref t), .val (.int (0 : Int32)), .val (.int (Int32.ofNat bs.length)), .val (.int (Int32.ofNat bs.length)), .val (.ref b5)] [(.ref t), (.int (0 : Int32)), (.ref b5), (.int (0 : Int32)), (.ref t)])) rfl rfl (hb hby d45_20) _ ?_
    rw [len_of S6 M6]
    refine XS.iloadN X5.here hx rfl (hb hby d45_21) rfl ?_
    refine XS.isub X5.here hx rfl (hb hby d45_22) rfl ?_
    exact Steps.refl _)
  have eq8 : ((Int32.ofNat L) - (0 : Int32)) = (Int32.ofNat L) := own_sub00 _
  have c8 : Steps p.tables e below S0 (T5.setTop (mkF m 23 #[.val (.ref t), .val (.int (0 : Int32)), .val (.int (Int32.ofNat bs.length)), .val (.int (Int32.ofNat bs.length)), .val (.ref b5)] [(.int (Int32.ofNat L)), (.int (0 : Int32)), (.ref b5), (.int (0 : Int32)), (.ref t)])) := by have q := c7; rw [eq8] at q; exact q
  have c9 : Steps p.tables e below S0 (T5.setTop (mkF m 24 #[.val (.ref t), .val (.int (0 : Int32)), .val (.int (Int32.ofNat bs.length)), .val (.int (Int32.ofNat bs.length)), .val (.ref b5)] [(.int (Int32.ofNat bs.length)), (.int (Int32.ofNat L)), (.int (0 : Int32)), (.ref b5), (.int (0 : Int32)), (.ref t)])) := c8.trans (by
    refine XS.iloadN X5.here hx rfl (hb hby d45_23) rfl ?_
    exact Steps.refl _)
  obtain ⟨v10, T10, L10, X10, ⟨N10', rfl, e10⟩, c10'⟩ := own_stat X5 hx hml hZ hown (hw _ (List.mem_of_getElem? (i := 228) rfl)) (hw _ (List.mem_of_getElem? (i := 229) rfl)) (hw _ (List.mem_of_getElem? (i := 221) rfl)) (hw _ (List.mem_of_getElem? (i := 230) rfl)) (by decide) (kc := 0) (ks := 0) (h := h5) (W := 4) (argsL := [(.int (Int32.ofNat L)), (.int (Int32.ofNat bs.length))]) (rest := [(.int (0 : Int32)), (.ref b5), (.int (0 : Int32)), (.ref t)]) (own_pay (W := 4) (rmMinN l Z a0 hw L bs.length h5 (O0.ext E5) (by omega) (by omega)) hZ (hw _ (List.mem_of_getElem? (i := 230) rfl)) (hw _ (List.mem_of_getElem? (i := 221) rfl)) (by decide) (by decide)) c9 (lenOf pd_0 rfl) rfl (hb hby d45_24) e5
  have N10 := Fr.app N2 N10'
  have c10 : Steps p.tables e below S0 (T10.setTop (mkF m 27 #[.val (.ref t), .val (.int (0 : Int32)), .val (.int (Int32.ofNat bs.length)), .val (.int (Int32.ofNat bs.length)), .val (.ref b5)] [(.int (Int32.ofNat (min L bs.length))), (.int (0 : Int32)), (.ref b5), (.int (0 : Int32)), (.ref t)])) := c10'
  have eq11 : (Int32.ofNat (min L bs.length)) = (Int32.ofNat bs.length) := by rw [Nat.min_eq_right hle]
  have c11 : Steps p.tables e below S0 (T10.setTop (mkF m 27 #[.val (.ref t), .val (.int (0 : Int32)), .val (.int (Int32.ofNat bs.length)), .val (.int (Int32.ofNat bs.length)), .val (.ref b5)] [(.int (Int32.ofNat bs.length)), (.int (0 : Int32)), (.ref b5), (.int (0 : Int32)), (.ref t)])) := by have q := c10; rw [eq11] at q; exact q
  obtain ⟨T12, h12, L12, X12, e12, N12, K12, V12, st12⟩ := own_cpV X10 hx hZ hown (hw _ (List.mem_of_getElem? (i := 231) rfl)) (hw _ (List.mem_of_getElem? (i := 157) rfl)) (hw _ (List.mem_of_getElem? (i := 155) rfl)) (hw _ (List.mem_of_getElem? (i := 156) rfl)) e10 (L) (bs.length) (0) (0) (bs.length) (Vt.ext E5) V5 rfl (by omega) (by omega) (by omega) (by omega) (own_bv bs) (own_cp0 bs bs.length (Nat.le_refl _)) N10 ge5 (g := (mkF m 27 #[.val (.ref t), .val (.int (0 : Int32)), .val (.int (Int32.ofNat bs.length)), .val (.int (Int32.ofNat bs.length)), .val (.ref b5)] [(.int (Int32.ofNat bs.length)), (.int (0 : Int32)), (.ref b5), (.int (0 : Int32)), (.ref t)])) rfl (by rw [hml]; rfl) rfl (hb hby d45_27) (by decide) (W := 0) (by show 2 * 0 + _ ≤ _; exact Nat.le_of_eq rfl) (by decide)
  have c13 : Steps p.tables e below S0 (T12.setTop (mkF m 32 #[.val (.ref t), .val (.int (0 : Int32)), .val (.int (Int32.ofNat bs.length)), .val (.int (Int32.ofNat bs.length)), .val (.ref b5)] [(.ref b5)])) := c11.trans (by
    refine st12 _ ?_
    refine XS.aload X12.here hx rfl (hb hby d45_30) rfl rfl ?_
    exact Steps.refl _)
  refine ⟨T12, (some (.ref b5)), _, _, _, X12, by decide, by decide, (fun q => by cases q), N12, ?_, fun fs hr => ?_⟩
  · rw [e12]
    exact ⟨b5, k5, rfl, (((Keep.refl h0 []).ext E5).trans K12 (allS (Or.inr (Nat.le_trans (Keep.refl h0 []).1 lo5)) all0)), (Nat.le_trans (Keep.refl h0 []).1 lo5), V12⟩
  · exact own_retR X12 hx c13 hret rfl rfl (hb hby d45_32) hr
set_option maxRecDepth 65536 in
set_option maxHeartbeats 40000000 in
theorem rmCORc (l : Launch) (Z : State) (a0 : Array Value) (hw : ∀ d ∈ tables_1, d.before a0 Z = true) (t : Addr) (kb : ClassId) (L : Nat) (bs : List Int32) (h0 : Heap) (O0 : Old Z Z.heap.size h0) (Vt : Arv Z h0 t kb .byte (Int32.ofNat L) (own_bv bs) (.int (0 : Int32))) (Et : Exa Z h0 t "[B") (hle : bs.length ≤ L) (hL4 : L ≤ 4000) (ho : bs.length ≤ 8) (hq : bs.length = L) :
    own_NC l Z (⟨"java/util/Arrays", "copyOfRange", "([BII)[B"⟩ : MethodName) jdk_65_method_132_code 3 (some (.array .byte)) ({ frames := 2, cells := 1, slots := 8, locals := 56 } : Room) #[(.ref t), (.int (0 : Int32)), (.int (Int32.ofNat bs.length))] h0 (fun v h => ∃ (t2 : Addr) (kb2 : ClassId), v = some (.ref t2) ∧ Keep h0 h [] ∧ h0.size ≤ t2 ∧ Arv Z h t2 kb2 .byte (Int32.ofNat bs.length) (own_bv bs) (.int (0 : Int32))) := by
  refine own_nc (plainFor_of_name (by first | (simp [plainName, overriddenIn]; done) | decide +kernel)) ?_
  intro p e s m below meth c s₁ S0 X0 hx hby hml hret hnm hown hZ e0 cc
  have N0 := Fr.nil Z.heap.size
  have c0 : Steps p.tables e below S0 (s₁.setTop (mkF m 0 #[.val (.ref t), .val (.int (0 : Int32)), .val (.int (Int32.ofNat bs.length))] [])) := cc.trans (XT.entry rfl)
  obtain ⟨cl1, Ar1, q1, S1, M1, H1, G1⟩ := id Vt
  obtain ⟨T2, h2, X2, e2, E2, V2, Ev2, st2⟩ := own_cloneV X0 hx hZ hown (hw _ (List.mem_of_getElem? (i := 200) rfl)) (hw _ (List.mem_of_getElem? (i := 201) rfl)) (hw _ (List.mem_of_getElem? (i := 205) rfl)) (hw _ (List.mem_of_getElem? (i := 203) rfl)) (hw _ (List.mem_of_getElem? (i := 204) rfl)) (hw _ (List.mem_of_getElem? (i := 206) rfl)) e0 Vt Et (g := (mkF m 18 #[.val (.ref t), .val (.int (0 : Int32)), .val (.int (Int32.ofNat bs.length))] [(.ref t)])) rfl (by rw [hml]; rfl) rfl (hb hby d39_18) (by decide) (W := 0) (cap := 8) (by show 2 * 0 + _ ≤ _; exact Nat.le_of_eq rfl) (by decide) (by rw [own_clamp (by omega)]; omega) (by decide) (by decide)
  obtain ⟨b2, g2⟩ : ∃ z, z = h0.size := ⟨_, rfl⟩
  rw [← g2] at V2 Ev2 st2
  have lo2 : h0.size ≤ b2 := Nat.le_of_eq g2.symm
  have ge2 : Z.heap.size ≤ b2 := Nat.le_trans O0.2.1 lo2
  obtain ⟨T3, X3, e3, st3⟩ := castY X2 hx hZ hown (hw _ (List.mem_of_getElem? (i := 207) rfl)) e2 (Ins.self Ev2) (g := (mkF m 21 #[.val (.ref t), .val (.int (0 : Int32)), .val (.int (Int32.ofNat bs.length))] [(.ref b2)])) rfl rfl (hb hby d39_21)
  have c4 : Steps p.tables e below S0 (T3.setTop (mkF m 24 #[.val (.ref t), .val (.int (0 : Int32)), .val (.int (Int32.ofNat bs.length))] [(.ref b2)])) := c0.trans (by
    refine XS.iloadN X0.here hx rfl (hb hby d39_0) rfl ?_
    refine XS.ifNo X0.here hx rfl (hb hby d39_1) rfl ((if0 _ _).trans (teq (by decide : (0 : Int32) = (0 : Int32))).2) ?_
    refine XS.iloadN X0.here hx rfl (hb hby d39_4) rfl ?_
    refine XS.aloadN X0.here hx rfl (hb hby d39_5) rfl rfl ?_
    refine X0.arraylength hx (by rw [show s₁.heap = h0 from e0]; exact Ar1.1) (State.isArrayOf_alike (hZ).alike Ar1.2.1) (g := (mkF m 6 #[.val (.ref t), .val (.int (0 : Int32)), .val (.int (Int32.ofNat bs.length))] [(.ref t), (.int (Int32.ofNat bs.length))])) rfl rfl (hb hby d39_6) _ ?_
    rw [len_of S1 M1]
    refine XS.icmpYes X0.here hx rfl (pc0 := 7) (pc' := 17) rfl (hb hby d39_7) rfl (teq (by rw [hq])).1 (by decide) (by decide) ?_
    refine XS.aloadN X0.here hx rfl (hb hby d39_17) rfl rfl ?_
    refine st2 _ ?_
    show Steps p.tables e below (T2.setTop (mkF m 21 #[.val (.ref t), .val (.int (0 : Int32)), .val (.int (Int32.ofNat bs.length))] [(.ref b2)])) _
    refine st3 _ ?_
    exact Steps.refl _)
  refine ⟨T3, (some (.ref b2)), _, _, _, X3, by decide, by decide, (fun q => by cases q), N0, ?_, fun fs hr => ?_⟩
  · rw [e3]
    exact ⟨b2, kb, rfl, ((Keep.refl h0 []).ext E2), (Nat.le_trans (Keep.refl h0 []).1 lo2), by rw [hq]; exact V2⟩
  · exact own_retR X3 hx c4 hret rfl rfl (hb hby d39_24) hr
set_option maxRecDepth 65536 in
set_option maxHeartbeats 40000000 in
theorem rmCORb (l : Launch) (Z : State) (a0 : Array Value) (hw : ∀ d ∈ tables_1, d.before a0 Z = true) (t : Addr) (kb : ClassId) (L : Nat) (bs : List Int32) (h0 : Heap) (O0 : Old Z Z.heap.size h0) (Vt : Arv Z h0 t kb .byte (Int32.ofNat L) (own_bv bs) (.int (0 : Int32))) (Et : Exa Z h0 t "[B") (hle : bs.length ≤ L) (hL4 : L ≤ 4000) (ho : bs.length ≤ 8) (hq : ¬ bs.length = L) :
    own_NC l Z (⟨"java/util/Arrays", "copyOfRange", "([BII)[B"⟩ : MethodName) jdk_65_method_132_code 3 (some (.array .byte)) ({ frames := 2, cells := 1, slots := 8, locals := 56 } : Room) #[(.ref t), (.int (0 : Int32)), (.int (Int32.ofNat bs.length))] h0 (fun v h => ∃ (t2 : Addr) (kb2 : ClassId), v = some (.ref t2) ∧ Keep h0 h [] ∧ h0.size ≤ t2 ∧ Arv Z h t2 kb2 .byte (Int32.ofNat bs.length) (own_bv bs) (.int (0 : Int32))) := by
  refine own_nc (plainFor_of_name (by first | (simp [plainName, overriddenIn]; done) | decide +kernel)) ?_
  intro p e s m below meth c s₁ S0 X0 hx hby hml hret hnm hown hZ e0 cc
  have N0 := Fr.nil Z.heap.size
  have c0 : Steps p.tables e below S0 (s₁.setTop (mkF m 0 #[.val (.ref t), .val (.int (0 : Int32)), .val (.int (Int32.ofNat bs.length))] [])) := cc.trans (XT.entry rfl)
  obtain ⟨cl1, Ar1, q1, S1, M1, H1, G1⟩ := id Vt
  have c2 : Steps p.tables e below S0 (s₁.setTop (mkF m 13 #[.val (.ref t), .val (.int (0 : Int32)), .val (.int (Int32.ofNat bs.length))] [(.int (Int32.ofNat bs.length)), (.int (0 : Int32)), (.ref t)])) := c0.trans (by
    refine XS.iloadN X0.here hx rfl (hb hby d39_0) rfl ?_
    refine XS.ifNo X0.here hx rfl (hb hby d39_1) rfl ((if0 _ _).trans (teq (by decide : (0 : Int32) = (0 : Int32))).2) ?_
    refine XS.iloadN X0.here hx rfl (hb hby d39_4) rfl ?_
    refine XS.aloadN X0.here hx rfl (hb hby d39_5) rfl rfl ?_
    refine X0.arraylength hx (by rw [show s₁.heap = h0 from e0]; exact Ar1.1) (State.isArrayOf_alike (hZ).alike Ar1.2.1) (g := (mkF m 6 #[.val (.ref t), .val (.int (0 : Int32)), .val (.int (Int32.ofNat bs.length))] [(.ref t), (.int (Int32.ofNat bs.length))])) rfl rfl (hb hby d39_6) _ ?_
    rw [len_of S1 M1]
    refine XS.icmpNo X0.here hx rfl (hb hby d39_7) rfl (feq (own_neN (by omega) (by omega) hq)).1 ?_
    refine XS.aloadN X0.here hx rfl (hb hby d39_10) rfl rfl ?_
    refine XS.iloadN X0.here hx rfl (hb hby d39_11) rfl ?_
    show Steps p.tables e below (s₁.setTop (mkF m 12 #[.val (.ref t), .val (.int (0 : Int32)), .val (.int (Int32.ofNat bs.length))] [(.int (0 : Int32)), (.ref t)])) _
    refine XS.iloadN X0.here hx rfl (hb hby d39_12) rfl ?_
    exact Steps.refl _)
  obtain ⟨v3, T3, L3, X3, ⟨N3', t3, kb3, rfl, K3, lo3, V3⟩, c3'⟩ := own_stat X0 hx hml hZ hown (hw _ (List.mem_of_getElem? (i := 232) rfl)) (hw _ (List.mem_of_getElem? (i := 233) rfl)) (hw _ (List.mem_of_getElem? (i := 198) rfl)) (hw _ (List.mem_of_getElem? (i := 234) rfl)) (by decide) (kc := 1) (ks := 8) (h := h0) (W := 0) (argsL := [(.ref t), (.int (0 : Int32)), (.int (Int32.ofNat bs.length))]) (rest := []) (own_pay (W := 0) (rmCORB l Z a0 hw t kb L bs h0 O0 Vt Et hle hL4 ho) hZ (hw _ (List.mem_of_getElem? (i := 234) rfl)) (hw _ (List.mem_of_getElem? (i := 198) rfl)) (by decide) (by decide)) c2 (lenOf pd_14 rfl) rfl (hb hby d39_13) e0
  have N3 := Fr.app N0 N3'
  have c3 : Steps p.tables e below S0 (T3.setTop (mkF m 16 #[.val (.ref t), .val (.int (0 : Int32)), .val (.int (Int32.ofNat bs.length))] [(.ref t3)])) := c3'
  refine ⟨T3, (some (.ref t3)), _, _, _, X3, by decide, by decide, (fun q => by cases q), N3, ?_, fun fs hr => ?_⟩
  · skip
    exact ⟨t3, kb3, rfl, K3, lo3, V3⟩
  · exact own_retR X3 hx c3 hret rfl rfl (hb hby d39_16) hr
theorem rmCOR (l : Launch) (Z : State) (a0 : Array Value) (hw : ∀ d ∈ tables_1, d.before a0 Z = true) (t : Addr) (kb : ClassId) (L : Nat) (bs : List Int32) (h0 : Heap) (O0 : Old Z Z.heap.size h0) (Vt : Arv Z h0 t kb .byte (Int32.ofNat L) (own_bv bs) (.int (0 : Int32))) (Et : Exa Z h0 t "[B") (hle : bs.length ≤ L) (hL4 : L ≤ 4000) (ho : bs.length ≤ 8) : own_NC l Z (⟨"java/util/Arrays", "copyOfRange", "([BII)[B"⟩ : MethodName) jdk_65_method_132_code 3 (some (.array .byte)) ({ frames := 2, cells := 1, slots := 8, locals := 56 } : Room) #[.ref t, .int (0 : Int32), .int (Int32.ofNat bs.length)] h0 (fun v h => ∃ (t2 : Addr) (kb2 : ClassId), v = some (.ref t2) ∧ Keep h0 h [] ∧ h0.size ≤ t2 ∧ Arv Z h t2 kb2 .byte (Int32.ofNat bs.length) (own_bv bs) (.int (0 : Int32))) := by
  by_cases q : bs.length = L
  · exact rmCORc l Z a0 hw t kb L bs h0 O0 Vt Et hle hL4 ho q
  · exact rmCORb l Z a0 hw t kb L bs h0 O0 Vt Et hle hL4 ho q
set_option maxRecDepth 65536 in
set_option maxHeartbeats 40000000 in
theorem rmGV (l : Launch) (Z : State) (a0 : Array Value) (hw : ∀ d ∈ tables_1, d.before a0 Z = true) (b t : Addr) (kb : ClassId) (L : Nat) (bs : List Int32) (h0 : Heap) (O0 : Old Z Z.heap.size h0) (hsb : own_SB Z h0 b t kb L bs) :
    own_NC l Z (⟨"java/lang/AbstractStringBuilder", "getValue", "()[B"⟩ : MethodName) jdk_68_method_64_code 1 (some (.array .byte)) ({ frames := 0, cells := 0, slots := 0, locals := 0 } : Room) #[(.ref b)] h0 (fun v h => v = some (.ref t) ∧ h = h0) := by
  refine own_nc (plainFor_of_name (by first | (simp [plainName, overriddenIn]; done) | decide +kernel)) ?_
  intro p e s m below meth c s₁ S0 X0 hx hby hml hret hnm hown hZ e0 cc
  have N0 := Fr.nil Z.heap.size
  have c0 : Steps p.tables e below S0 (s₁.setTop (mkF m 0 #[.val (.ref b)] [])) := cc.trans (XT.entry rfl)
  obtain ⟨Eb, Fc, Fo, Fv, Vt, Et, hle, hL4, hbt, gb, gt⟩ := id hsb
  obtain ⟨T1, X1, e1, st1⟩ := getF X0 hx hZ hown (host := "") (Or.inl (hw _ (List.mem_of_getElem? (i := 104) rfl))) Via.refl e0 Fv (g := (mkF m 1 #[.val (.ref b)] [(.ref b)])) rfl rfl (hb hby d36_1)
  have c2 : Steps p.tables e below S0 (T1.setTop (mkF m 4 #[.val (.ref b)] [(.ref t)])) := c0.trans (by
    refine XS.aloadN X0.here hx rfl (hb hby d36_0) rfl rfl ?_
    refine st1 _ ?_
    exact Steps.refl _)
  refine ⟨T1, (some (.ref t)), _, _, _, X1, by decide, by decide, (fun q => by cases q), N0, ?_, fun fs hr => ?_⟩
  · rw [e1]
    exact ⟨rfl, rfl⟩
  · exact own_retR X1 hx c2 hret rfl rfl (hb hby d36_4) hr
set_option maxRecDepth 65536 in
set_option maxHeartbeats 40000000 in
theorem rmAL (l : Launch) (Z : State) (a0 : Array Value) (hw : ∀ d ∈ tables_1, d.before a0 Z = true) (b t : Addr) (kb : ClassId) (L : Nat) (bs : List Int32) (h0 : Heap) (O0 : Old Z Z.heap.size h0) (hsb : own_SB Z h0 b t kb L bs) :
    own_NC l Z (⟨"java/lang/AbstractStringBuilder", "length", "()I"⟩ : MethodName) jdk_68_method_6_code 1 (some .int) ({ frames := 0, cells := 0, slots := 0, locals := 0 } : Room) #[(.ref b)] h0 (fun v h => v = some (.int (Int32.ofNat bs.length)) ∧ h = h0) := by
  refine own_nc (plainFor_of_name (by first | (simp [plainName, overriddenIn]; done) | decide +kernel)) ?_
  intro p e s m below meth c s₁ S0 X0 hx hby hml hret hnm hown hZ e0 cc
  have N0 := Fr.nil Z.heap.size
  have c0 : Steps p.tables e below S0 (s₁.setTop (mkF m 0 #[.val (.ref b)] [])) := cc.trans (XT.entry rfl)
  obtain ⟨Eb, Fc, Fo, Fv, Vt, Et, hle, hL4, hbt, gb, gt⟩ := id hsb
  obtain ⟨T1, X1, e1, st1⟩ := getF X0 hx hZ hown (host := "") (Or.inl (hw _ (List.mem_of_getElem? (i := 130) rfl))) Via.refl e0 Fc (g := (mkF m 1 #[.val (.ref b)] [(.ref b)])) rfl rfl (hb hby d38_1)
  have c2 : Steps p.tables e below S0 (T1.setTop (mkF m 4 #[.val (.ref b)] [(.int (Int32.ofNat bs.length))])) := c0.trans (by
    refine XS.aloadN X0.here hx rfl (hb hby d38_0) rfl rfl ?_
    refine st1 _ ?_
    exact Steps.refl _)
  refine ⟨T1, (some (.int (Int32.ofNat bs.length))), _, _, _, X1, by decide, by decide, (fun q => by cases q), N0, ?_, fun fs hr => ?_⟩
  · rw [e1]
    exact ⟨rfl, rfl⟩
  · exact c2.trans (retI X1 hx hret (hb hby d38_4) hr)
set_option maxRecDepth 65536 in
set_option maxHeartbeats 40000000 in
theorem rmSL (l : Launch) (Z : State) (a0 : Array Value) (hw : ∀ d ∈ tables_1, d.before a0 Z = true) (b t : Addr) (kb : ClassId) (L : Nat) (bs : List Int32) (h0 : Heap) (O0 : Old Z Z.heap.size h0) (hsb : own_SB Z h0 b t kb L bs) :
    own_NC l Z (⟨"java/lang/StringBuilder", "length", "()I"⟩ : MethodName) jdk_67_method_93_code 1 (some .int) ({ frames := 1, cells := 0, slots := 0, locals := 12 } : Room) #[(.ref b)] h0 (fun v h => v = some (.int (Int32.ofNat bs.length)) ∧ h = h0) := by
  refine own_nc (plainFor_of_name (by first | (simp [plainName, overriddenIn]; done) | decide +kernel)) ?_
  intro p e s m below meth c s₁ S0 X0 hx hby hml hret hnm hown hZ e0 cc
  have N0 := Fr.nil Z.heap.size
  have c0 : Steps p.tables e below S0 (s₁.setTop (mkF m 0 #[.val (.ref b)] [])) := cc.trans (XT.entry rfl)
  obtain ⟨Eb, Fc, Fo, Fv, Vt, Et, hle, hL4, hbt, gb, gt⟩ := id hsb
  have c1 : Steps p.tables e below S0 (s₁.setTop (mkF m 1 #[.val (.ref b)] [(.ref b)])) := c0.trans (by
    refine XS.aloadN X0.here hx rfl (hb hby d37_0) rfl rfl ?_
    exact Steps.refl _)
  obtain ⟨v2, T2, L2, X2, ⟨N2', rfl, e2⟩, c2'⟩ := own_super X0 hx hml hZ hown (by decide) (hw _ (List.mem_of_getElem? (i := 193) rfl)) (own_same (y2 := (⟨"java/lang/AbstractStringBuilder", "ensureCapacityInternal", "(I)V"⟩ : MethodName)) rfl (hw _ (List.mem_of_getElem? (i := 189) rfl)) (hw _ (List.mem_of_getElem? (i := 133) rfl)) (hw _ (List.mem_of_getElem? (i := 135) rfl)) (by decide)) (hw _ (List.mem_of_getElem? (i := 189) rfl)) (hw _ (List.mem_of_getElem? (i := 115) rfl)) (hw _ (List.mem_of_getElem? (i := 194) rfl)) (kc := 0) (ks := 0) (h := h0) (W := 0) (b := b) (argsL := []) (rest := []) (own_pay (W := 0) (rmAL l Z a0 hw b t kb L bs h0 O0 hsb) hZ (hw _ (List.mem_of_getElem? (i := 194) rfl)) (hw _ (List.mem_of_getElem? (i := 100) rfl)) (by decide) (by decide)) Eb c1 (lenOf pd_9 rfl) rfl (hb hby d37_1) e0
  have N2 := Fr.app N0 N2'
  have c2 : Steps p.tables e below S0 (T2.setTop (mkF m 4 #[.val (.ref b)] [(.int (Int32.ofNat bs.length))])) := c2'
  refine ⟨T2, (some (.int (Int32.ofNat bs.length))), _, _, _, X2, by decide, by decide, (fun q => by cases q), N2, ?_, fun fs hr => ?_⟩
  · rw [e2]
    exact ⟨rfl, rfl⟩
  · exact c2.trans (retI X2 hx hret (hb hby d37_4) hr)
set_option maxRecDepth 65536 in
set_option maxHeartbeats 40000000 in
theorem rmIAV (l : Launch) (Z : State) (a0 : Array Value) (hw : ∀ d ∈ tables_1, d.before a0 Z = true) (x : Addr) (u1 u2 : Value) (b t : Addr) (kb : ClassId) (L : Nat) (bs : List Int32) (z : Int32) (fm : Value) (h0 : Heap) (O0 : Old Z Z.heap.size h0) (E : Exa Z h0 x "java/lang/String") (V : Fld Z h0 x "java/lang/String" "value" "[B" u1) (Cd : Fld Z h0 x "java/lang/String" "coder" "B" u2) (gx : Z.heap.size ≤ x) (hsb : own_SB Z h0 b t kb L bs) (n1 : x ≠ b) (n2 : x ≠ t) (ho : bs.length ≤ 8) (SC : Sta Z Z.heap "java/lang/String" "COMPACT_STRINGS" "Z" (.int z)) (hz : ¬ z = 0) (SF : Sta Z Z.heap "jdk/internal/util/Preconditions" "SIOOBE_FORMATTER" "Ljava/util/function/BiFunction;" fm) (hfm : fm.isRef = true) :
    own_NC l Z (⟨"java/lang/String", "<init>", "(Ljava/lang/AbstractStringBuilder;Ljava/lang/Void;)V"⟩ : MethodName) jdk_42_method_150_code 5 none ({ frames := 3, cells := 1, slots := 8, locals := 71 } : Room) #[(.ref x), (.ref b), .null] h0 (fun v h => v = none ∧ Keep h0 h [x] ∧ Exa Z h x "java/lang/String" ∧ Fld Z h x "java/lang/String" "coder" "B" (.int (0 : Int32)) ∧ ∃ (t2 : Addr) (kb2 : ClassId), Fld Z h x "java/lang/String" "value" "[B" (.ref t2) ∧ Arv Z h t2 kb2 .byte (Int32.ofNat bs.length) (own_bv bs) (.int (0 : Int32)) ∧ h0.size ≤ t2) := by
  refine own_nc (plainFor_of_name (by first | (simp [plainName, overriddenIn]; done) | decide +kernel)) ?_
  intro p e s m below meth c s₁ S0 X0 hx hby hml hret hnm hown hZ e0 cc
  have N0 := Fr.nil Z.heap.size
  have c0 : Steps p.tables e below S0 (s₁.setTop (mkF m 0 #[.val (.ref x), .val (.ref b), .val .null, .unset, .unset] [])) := cc.trans (XT.entry rfl)
  obtain ⟨Eb, Fc, Fo, Fv, Vt, Et, hle, hL4, hbt, gb, gt⟩ := id hsb
  obtain ⟨T1, X1, e1, st1⟩ := initO X0 hx hZ hown (hw _ (List.mem_of_getElem? (i := 19) rfl)) (hw _ (List.mem_of_getElem? (i := 20) rfl)) (hw _ (List.mem_of_getElem? (i := 21) rfl)) e0 (g := (mkF m 1 #[.val (.ref x), .val (.ref b), .val .null, .unset, .unset] [(.ref x)])) rfl (by rw [hml]; rfl) rfl (hb hby d35_1) (by decide) (W := 0) (by show 2 * 0 + _ ≤ _; exact Nat.le_of_eq rfl) (by decide)
  have c2 : Steps p.tables e below S0 (T1.setTop (mkF m 5 #[.val (.ref x), .val (.ref b), .val .null, .unset, .unset] [(.ref b)])) := c0.trans (by
    refine XS.aloadN X0.here hx rfl (hb hby d35_0) rfl rfl ?_
    refine st1 _ ?_
    refine XS.aloadN X1.here hx rfl (hb hby d35_4) rfl rfl ?_
    exact Steps.refl _)
  obtain ⟨v3, T3, L3, X3, ⟨N3', rfl, e3⟩, c3'⟩ := own_virt X1 hx hml hZ hown (hw _ (List.mem_of_getElem? (i := 182) rfl)) (hw _ (List.mem_of_getElem? (i := 183) rfl)) (hw _ (List.mem_of_getElem? (i := 185) rfl)) (hw _ (List.mem_of_getElem? (i := 184) rfl)) (hw _ (List.mem_of_getElem? (i := 185) rfl)) (by decide) (kc := 0) (ks := 0) (h := h0) (W := 0) (b := b) (argsL := []) (rest := []) (own_pay (W := 0) (rmGV l Z a0 hw b t kb L bs h0 O0 hsb) hZ (hw _ (List.mem_of_getElem? (i := 186) rfl)) (hw _ (List.mem_of_getElem? (i := 100) rfl)) (by decide) (by decide)) Eb c2 (lenOf pd_8 rfl) rfl (hb hby d35_5) e1
  have N3 := Fr.app N0 N3'
  have c3 : Steps p.tables e below S0 (T3.setTop (mkF m 8 #[.val (.ref x), .val (.ref b), .val .null, .unset, .unset] [(.ref t)])) := c3'
  have c4 : Steps p.tables e below S0 (T3.setTop (mkF m 10 #[.val (.ref x), .val (.ref b), .val .null, .val (.ref t), .unset] [(.ref b)])) := c3.trans (by
    refine XS.astoreN X3.here hx rfl (hb hby d35_8) rfl rfl (l' := #[.val (.ref x), .val (.ref b), .val .null, .val (.ref t), .unset]) rfl ?_
    refine XS.aloadN X3.here hx rfl (hb hby d35_9) rfl rfl ?_
    exact Steps.refl _)
  obtain ⟨v5, T5, L5, X5, ⟨N5', rfl, e5⟩, c5'⟩ := own_virtN X3 hx hml hZ hown (hw _ (List.mem_of_getElem? (i := 187) rfl)) (hw _ (List.mem_of_getElem? (i := 188) rfl)) (hw _ (List.mem_of_getElem? (i := 190) rfl)) (hw _ (List.mem_of_getElem? (i := 191) rfl)) (y2 := (⟨"java/lang/AbstractStringBuilder", "ensureCapacityInternal", "(I)V"⟩ : MethodName)) rfl (hw _ (List.mem_of_getElem? (i := 133) rfl)) (hw _ (List.mem_of_getElem? (i := 135) rfl)) (by decide) (kc := 0) (ks := 0) (h := h0) (W := 0) (b := b) (argsL := []) (rest := []) (own_pay (W := 0) (rmSL l Z a0 hw b t kb L bs h0 O0 hsb) hZ (hw _ (List.mem_of_getElem? (i := 192) rfl)) (hw _ (List.mem_of_getElem? (i := 92) rfl)) (by decide) (by decide)) Eb c4 (lenOf pd_9 rfl) rfl (hb hby d35_10) e3
  have N5 := Fr.app N3 N5'
  have c5 : Steps p.tables e below S0 (T5.setTop (mkF m 13 #[.val (.ref x), .val (.ref b), .val .null, .val (.ref t), .unset] [(.int (Int32.ofNat bs.length))])) := c5'
  have c6 : Steps p.tables e below S0 (T5.setTop (mkF m 16 #[.val (.ref x), .val (.ref b), .val .null, .val (.ref t), .val (.int (Int32.ofNat bs.length))] [(.ref b)])) := c5.trans (by
    refine XS.istore X5.here hx rfl (hb hby d35_13) rfl (l' := #[.val (.ref x), .val (.ref b), .val .null, .val (.ref t), .val (.int (Int32.ofNat bs.length))]) rfl ?_
    refine XS.aloadN X5.here hx rfl (hb hby d35_15) rfl rfl ?_
    exact Steps.refl _)
  obtain ⟨v7, T7, L7, X7, ⟨N7', rfl, e7⟩, c7'⟩ := own_virt X5 hx hml hZ hown (hw _ (List.mem_of_getElem? (i := 195) rfl)) (hw _ (List.mem_of_getElem? (i := 144) rfl)) (hw _ (List.mem_of_getElem? (i := 146) rfl)) (hw _ (List.mem_of_getElem? (i := 145) rfl)) (hw _ (List.mem_of_getElem? (i := 146) rfl)) (by decide) (kc := 0) (ks := 0) (h := h0) (W := 0) (b := b) (argsL := []) (rest := []) (own_pay (W := 0) (rmAIL l Z a0 hw b z fm h0 O0 Fo SC hz SF hfm) hZ (hw _ (List.mem_of_getElem? (i := 147) rfl)) (hw _ (List.mem_of_getElem? (i := 100) rfl)) (by decide) (by decide)) Eb c6 (lenOf pd_5 rfl) rfl (hb hby d35_16) e5
  have N7 := Fr.app N5 N7'
  have c7 : Steps p.tables e below S0 (T7.setTop (mkF m 19 #[.val (.ref x), .val (.ref b), .val .null, .val (.ref t), .val (.int (Int32.ofNat bs.length))] [(.int (1 : Int32))])) := c7'
  obtain ⟨T8, h8, X8, e8, W8, st8⟩ := putFN X7 hx hZ hown (hw _ (List.mem_of_getElem? (i := 29) rfl)) Via.refl e7 Cd E (Or.inr ⟨(hw _ (List.mem_of_getElem? (i := 25) rfl)), rfl, hnm⟩) (hw _ (List.mem_of_getElem? (i := 9) rfl)) (ty := .byte) (v' := (.int (0 : Int32))) (by decide) rfl rfl (g := (mkF m 24 #[.val (.ref x), .val (.ref b), .val .null, .val (.ref t), .val (.int (Int32.ofNat bs.length))] [(.int (0 : Int32)), (.ref x)])) rfl rfl (hb hby d35_24)
  have N8 := Fr.snoc X8 N7 gx
  have Fw8 := Cd.same W8
  have c9 : Steps p.tables e below S0 (T8.setTop (mkF m 32 #[.val (.ref x), .val (.ref b), .val .null, .val (.ref t), .val (.int (Int32.ofNat bs.length))] [(.int (Int32.ofNat bs.length)), (.int (0 : Int32)), (.ref t), (.ref x)])) := c7.trans (by
    refine XS.ifNo X7.here hx rfl (hb hby d35_19) rfl ((if0 _ _).trans (feq (by decide : ¬ ((1 : Int32) = (0 : Int32)))).1) ?_
    refine XS.aloadN X7.here hx rfl (hb hby d35_22) rfl rfl ?_
    refine XS.iconst X7.here hx rfl (hb hby d35_23) ?_
    refine st8 _ ?_
    show Steps p.tables e below (T8.setTop (mkF m 27 #[.val (.ref x), .val (.ref b), .val .null, .val (.ref t), .val (.int (Int32.ofNat bs.length))] [])) _
    refine XS.aloadN X8.here hx rfl (hb hby d35_27) rfl rfl ?_
    refine XS.aloadN X8.here hx rfl (hb hby d35_28) rfl rfl ?_
    refine XS.iconst X8.here hx rfl (hb hby d35_29) ?_
    refine XS.iload X8.here hx rfl (hb hby d35_30) rfl ?_
    exact Steps.refl _)
  obtain ⟨v10, T10, L10, X10, ⟨N10', t10, kb10, rfl, K10, lo10, V10⟩, c10'⟩ := own_stat X8 hx hml hZ hown (hw _ (List.mem_of_getElem? (i := 196) rfl)) (hw _ (List.mem_of_getElem? (i := 197) rfl)) (hw _ (List.mem_of_getElem? (i := 198) rfl)) (hw _ (List.mem_of_getElem? (i := 199) rfl)) (by decide) (kc := 1) (ks := 8) (h := h8) (W := 1) (argsL := [(.ref t), (.int (0 : Int32)), (.int (Int32.ofNat bs.length))]) (rest := [(.ref x)]) (own_pay (W := 1) (rmCOR l Z a0 hw t kb L bs h8 (O0.wr W8 gx) (Vt.other W8 (Ne.symm n2)) (Et.wr W8) hle hL4 ho) hZ (hw _ (List.mem_of_getElem? (i := 199) rfl)) (hw _ (List.mem_of_getElem? (i := 198) rfl)) (by decide) (by decide)) c9 (lenOf pd_14 rfl) rfl (hb hby d35_32) e8
  have N10 := Fr.app N8 N10'
  have c10 : Steps p.tables e below S0 (T10.setTop (mkF m 35 #[.val (.ref x), .val (.ref b), .val .null, .val (.ref t), .val (.int (Int32.ofNat bs.length))] [(.ref t10), (.ref x)])) := c10'
  obtain ⟨T11, h11, X11, e11, W11, st11⟩ := putF X10 hx hZ hown (host := "") (Or.inl (hw _ (List.mem_of_getElem? (i := 28) rfl))) Via.refl rfl ((V.other W8 (Or.inr (slot_ne (Or.inr (hw _ (List.mem_of_getElem? (i := 24) rfl))) (Or.inr (hw _ (List.mem_of_getElem? (i := 25) rfl))) (by decide) (t := (.array .byte)) (t' := .byte) (by decide) (by decide)))).keep K10 nin0) ((E.wr W8).keep K10) (Or.inr ⟨(hw _ (List.mem_of_getElem? (i := 24) rfl)), rfl, hnm⟩) (hw _ (List.mem_of_getElem? (i := 9) rfl)) (ty := (.array .byte)) (by decide) rfl rfl (g := (mkF m 35 #[.val (.ref x), .val (.ref b), .val .null, .val (.ref t), .val (.int (Int32.ofNat bs.length))] [(.ref t10), (.ref x)])) rfl rfl (hb hby d35_35)
  have N11 := Fr.snoc X11 N10 gx
  have Fw11 := ((V.other W8 (Or.inr (slot_ne (Or.inr (hw _ (List.mem_of_getElem? (i := 24) rfl))) (Or.inr (hw _ (List.mem_of_getElem? (i := 25) rfl))) (by decide) (t := (.array .byte)) (t' := .byte) (by decide) (by decide)))).keep K10 nin0).same W11
  have c12 : Steps p.tables e below S0 (T11.setTop (mkF m 97 #[.val (.ref x), .val (.ref b), .val .null, .val (.ref t), .val (.int (Int32.ofNat bs.length))] [])) := c10.trans (by
    refine st11 _ ?_
    refine XS.goto X11.here hx rfl (pc0 := 38) (pc' := 97) rfl (hb hby d35_38) (by decide) (by decide) ?_
    exact Steps.refl _)
  refine ⟨T11, none, _, _, _, X11, by decide, by decide, (fun _ => rfl), N11, ?_, fun fs hr => ?_⟩
  · rw [e11]
    exact ⟨rfl, ((((Keep.refl h0 [x]).wr W8 (Or.inl (List.mem_of_getElem? (i := 0) rfl))).trans K10 all0).wr W11 (Or.inl (List.mem_of_getElem? (i := 0) rfl))), (((E.wr W8).keep K10).wr W11), ((Fw8.keep K10 nin0).other W11 (Or.inr (slot_ne (Or.inr (hw _ (List.mem_of_getElem? (i := 25) rfl))) (Or.inr (hw _ (List.mem_of_getElem? (i := 24) rfl))) (by decide) (t := .byte) (t' := (.array .byte)) (by decide) (by decide)))), t10, kb10, Fw11, (V10.other W11 (Ne.symm (Nat.ne_of_lt (Nat.lt_of_lt_of_le (Nat.lt_of_lt_of_le E.lt (Keep.of_wr W8).1) lo10)))), (Nat.le_trans (own_kz (Keep.refl h0 []) (Keep.of_wr W8)).1 lo10)⟩
  · exact c12.trans (X11.returnOut hx hret (hb hby d35_97) hr)
set_option maxRecDepth 65536 in
set_option maxHeartbeats 40000000 in
theorem rmISB (l : Launch) (Z : State) (a0 : Array Value) (hw : ∀ d ∈ tables_1, d.before a0 Z = true) (x : Addr) (u1 u2 : Value) (b t : Addr) (kb : ClassId) (L : Nat) (bs : List Int32) (z : Int32) (fm : Value) (h0 : Heap) (O0 : Old Z Z.heap.size h0) (E : Exa Z h0 x "java/lang/String") (V : Fld Z h0 x "java/lang/String" "value" "[B" u1) (Cd : Fld Z h0 x "java/lang/String" "coder" "B" u2) (gx : Z.heap.size ≤ x) (hsb : own_SB Z h0 b t kb L bs) (n1 : x ≠ b) (n2 : x ≠ t) (ho : bs.length ≤ 8) (SC : Sta Z Z.heap "java/lang/String" "COMPACT_STRINGS" "Z" (.int z)) (hz : ¬ z = 0) (SF : Sta Z Z.heap "jdk/internal/util/Preconditions" "SIOOBE_FORMATTER" "Ljava/util/function/BiFunction;" fm) (hfm : fm.isRef = true) :
    own_NC l Z (⟨"java/lang/String", "<init>", "(Ljava/lang/StringBuilder;)V"⟩ : MethodName) jdk_42_method_53_code 2 none ({ frames := 4, cells := 1, slots := 8, locals := 87 } : Room) #[(.ref x), (.ref b)] h0 (fun v h => v = none ∧ Keep h0 h [x] ∧ Exa Z h x "java/lang/String" ∧ Fld Z h x "java/lang/String" "coder" "B" (.int (0 : Int32)) ∧ ∃ (t2 : Addr) (kb2 : ClassId), Fld Z h x "java/lang/String" "value" "[B" (.ref t2) ∧ Arv Z h t2 kb2 .byte (Int32.ofNat bs.length) (own_bv bs) (.int (0 : Int32)) ∧ h0.size ≤ t2) := by
  refine own_nc (plainFor_of_name (by first | (simp [plainName, overriddenIn]; done) | decide +kernel)) ?_
  intro p e s m below meth c s₁ S0 X0 hx hby hml hret hnm hown hZ e0 cc
  have N0 := Fr.nil Z.heap.size
  have c0 : Steps p.tables e below S0 (s₁.setTop (mkF m 0 #[.val (.ref x), .val (.ref b)] [])) := cc.trans (XT.entry rfl)
  obtain ⟨Eb, Fc, Fo, Fv, Vt, Et, hle, hL4, hbt, gb, gt⟩ := id hsb
  have c1 : Steps p.tables e below S0 (s₁.setTop (mkF m 3 #[.val (.ref x), .val (.ref b)] [.null, (.ref b), (.ref x)])) := c0.trans (by
    refine XS.aloadN X0.here hx rfl (hb hby d34_0) rfl rfl ?_
    refine XS.aloadN X0.here hx rfl (hb hby d34_1) rfl rfl ?_
    refine XS.aconstNull X0.here hx rfl (hb hby d34_2) ?_
    exact Steps.refl _)
  obtain ⟨v2, T2, L2, X2, ⟨N2', rfl, K2, E2, Cd2, t2, kb2, V2, Kb2, lo2⟩, c2'⟩ := own_spec X0 hx hml hZ hown rfl (hw _ (List.mem_of_getElem? (i := 179) rfl)) (hw _ (List.mem_of_getElem? (i := 180) rfl)) (hw _ (List.mem_of_getElem? (i := 181) rfl)) (by decide) (kc := 1) (ks := 8) (h := h0) (W := 0) (b := x) (argsL := [(.ref b), .null]) (rest := []) (own_pay (W := 0) (rmIAV l Z a0 hw x u1 u2 b t kb L bs z fm h0 O0 E V Cd gx hsb n1 n2 ho SC hz SF hfm) hZ (hw _ (List.mem_of_getElem? (i := 181) rfl)) (hw _ (List.mem_of_getElem? (i := 10) rfl)) (by decide) (by decide)) c1 (lenOf pd_15 rfl) rfl (hb hby d34_3) e0
  have N2 := Fr.app N0 N2'
  have c2 : Steps p.tables e below S0 (T2.setTop (mkF m 6 #[.val (.ref x), .val (.ref b)] [])) := c2'
  refine ⟨T2, none, _, _, _, X2, by decide, by decide, (fun _ => rfl), N2, ?_, fun fs hr => ?_⟩
  · skip
    exact ⟨rfl, K2, E2, Cd2, t2, kb2, V2, Kb2, lo2⟩
  · exact c2.trans (X2.returnOut hx hret (hb hby d34_6) hr)
set_option maxRecDepth 65536 in
set_option maxHeartbeats 40000000 in
theorem rmTS (l : Launch) (Z : State) (a0 : Array Value) (hw : ∀ d ∈ tables_1, d.before a0 Z = true) (b t : Addr) (kb : ClassId) (L : Nat) (bs : List Int32) (z : Int32) (fm : Value) (h0 : Heap) (O0 : Old Z Z.heap.size h0) (hsb : own_SB Z h0 b t kb L bs) (ho : bs.length ≤ 8) (SC : Sta Z Z.heap "java/lang/String" "COMPACT_STRINGS" "Z" (.int z)) (hz : ¬ z = 0) (SF : Sta Z Z.heap "jdk/internal/util/Preconditions" "SIOOBE_FORMATTER" "Ljava/util/function/BiFunction;" fm) (hfm : fm.isRef = true) :
    own_NC l Z (⟨"java/lang/StringBuilder", "toString", "()Ljava/lang/String;"⟩ : MethodName) jdk_67_method_42_code 1 (some (.object "java/lang/String")) ({ frames := 5, cells := 2, slots := 12, locals := 101 } : Room) #[(.ref b)] h0 (fun v h => (∃ (x t : Addr) (kb : ClassId), v = some (.ref x) ∧ Keep h0 h [] ∧ h0.size ≤ x ∧ Exa Z h x "java/lang/String" ∧ Fld Z h x "java/lang/String" "value" "[B" (.ref t) ∧ Fld Z h x "java/lang/String" "coder" "B" (.int (0 : Int32)) ∧ Arv Z h t kb .byte (Int32.ofNat (bs : List Int32).length) (((bs : List Int32).map (fun c : Int32 => c.toInt8.toInt32)).map Value.int) (.int (0 : Int32)))) := by
  refine own_nc (plainFor_of_name (by first | (simp [plainName, overriddenIn]; done) | decide +kernel)) ?_
  intro p e s m below meth c s₁ S0 X0 hx hby hml hret hnm hown hZ e0 cc
  have N0 := Fr.nil Z.heap.size
  have c0 : Steps p.tables e below S0 (s₁.setTop (mkF m 0 #[.val (.ref b)] [])) := cc.trans (XT.entry rfl)
  obtain ⟨Eb, Fc, Fo, Fv, Vt, Et, hle, hL4, hbt, gb, gt⟩ := id hsb
  obtain ⟨T1, h1, X1, e1, E1, A1, D1, -, st1⟩ := newO X0 hx hZ hown (hw _ (List.mem_of_getElem? (i := 175) rfl)) (hw _ (List.mem_of_getElem? (i := 9) rfl)) (hw _ (List.mem_of_getElem? (i := 10) rfl)) e0 (g := (mkF m 0 #[.val (.ref b)] [])) rfl (hb hby d33_0) (by decide) (by decide)
  obtain ⟨b1, g1⟩ : ∃ z, z = h0.size := ⟨_, rfl⟩
  rw [← g1] at A1 D1 st1
  have lo1 : h0.size ≤ b1 := Nat.le_of_eq g1.symm
  have ge1 : Z.heap.size ≤ b1 := Nat.le_trans O0.2.1 lo1
  have F1_value : Fld Z h1 b1 "java/lang/String" "value" "[B" .null := D1 (Or.inr (hw _ (List.mem_of_getElem? (i := 24) rfl))) (ty := (.array .byte)) (by decide)
  have F1_coder : Fld Z h1 b1 "java/lang/String" "coder" "B" (.int (0 : Int32)) := D1 (Or.inr (hw _ (List.mem_of_getElem? (i := 25) rfl))) (ty := .byte) (by decide)
  have c2 : Steps p.tables e below S0 (T1.setTop (mkF m 5 #[.val (.ref b)] [(.ref b), (.ref b1), (.ref b1)])) := c0.trans (by
    refine st1 _ ?_
    refine XS.dup X1.here hx rfl (hb hby d33_3) rfl rfl ?_
    refine XS.aloadN X1.here hx rfl (hb hby d33_4) rfl rfl ?_
    exact Steps.refl _)
  obtain ⟨v3, T3, L3, X3, ⟨N3', rfl, K3, E3, Cd3, t3, kb3, V3, Kb3, lo3⟩, c3'⟩ := own_spec X1 hx hml hZ hown rfl (hw _ (List.mem_of_getElem? (i := 176) rfl)) (hw _ (List.mem_of_getElem? (i := 177) rfl)) (hw _ (List.mem_of_getElem? (i := 178) rfl)) (by decide) (kc := 1) (ks := 8) (h := h1) (W := 1) (b := b1) (argsL := [(.ref b)]) (rest := [(.ref b1)]) (own_pay (W := 1) (rmISB l Z a0 hw b1 _ _ b t kb L bs z fm h1 (O0.ext E1) A1 F1_value F1_coder ge1 ⟨(Eb.ext E1), (Fc.ext E1), (Fo.ext E1), (Fv.ext E1), (Vt.ext E1), (Et.ext E1), hle, hL4, hbt, gb, gt⟩ (Ne.symm (Nat.ne_of_lt (Nat.lt_of_lt_of_le Eb.lt lo1))) (Ne.symm (Nat.ne_of_lt (Nat.lt_of_lt_of_le Vt.lt lo1))) ho SC hz SF hfm) hZ (hw _ (List.mem_of_getElem? (i := 178) rfl)) (hw _ (List.mem_of_getElem? (i := 10) rfl)) (by decide) (by decide)) c2 (lenOf pd_16 rfl) rfl (hb hby d33_5) e1
  have N3 := Fr.app N0 N3'
  have c3 : Steps p.tables e below S0 (T3.setTop (mkF m 8 #[.val (.ref b)] [(.ref b1)])) := c3'
  refine ⟨T3, (some (.ref b1)), _, _, _, X3, by decide, by decide, (fun q => by cases q), N3, ?_, fun fs hr => ?_⟩
  · skip
    exact ⟨b1, t3, kb3, rfl, (((Keep.refl h0 []).ext E1).trans K3 (allS (Or.inr (Nat.le_trans (Keep.refl h0 []).1 lo1)) all0)), (Nat.le_trans (Keep.refl h0 []).1 lo1), E3, V3, Cd3, Kb3⟩
  · exact own_retR X3 hx c3 hret rfl rfl (hb hby d33_8) hr
set_option maxRecDepth 65536 in
set_option maxHeartbeats 40000000 in
theorem rmIsE (l : Launch) (Z : State) (a0 : Array Value) (hw : ∀ d ∈ tables_1, d.before a0 Z = true) (k : Int32) (h0 : Heap) (O0 : Old Z Z.heap.size h0)  :
    own_NC l Z (⟨"com/example/attestor/attestor/interpolation/MessageTemplate", "isEscapable", "(C)Z"⟩ : MethodName) prog_7_method_9_code 1 (some .boolean) ({ frames := 0, cells := 0, slots := 0, locals := 0 } : Room) #[(.int k)] h0 (fun v h => v = some (.int (own_i (own_sp k))) ∧ h = h0) := by
  refine own_nc (plainFor_of_name (by first | (simp [plainName, overriddenIn]; done) | decide +kernel)) ?_
  intro p e s m below meth c s₁ S0 X0 hx hby hml hret hnm hown hZ e0 cc
  have N0 := Fr.nil Z.heap.size
  have c0 : Steps p.tables e below S0 (s₁.setTop (mkF m 0 #[.val (.int k)] [])) := cc.trans (XT.entry rfl)
  have c1 : Steps p.tables e below S0 (s₁.setTop (mkF m 3 #[.val (.int k)] [(.int (123 : Int32)), (.int k)])) := c0.trans (by
    refine XS.iloadN X0.here hx rfl (hb hby d20_0) rfl ?_
    refine XS.bipush X0.here hx rfl (hb hby d20_1) ?_
    exact Steps.refl _)
  by_cases hc2 : k = (123 : Int32)
  · skip
    have c3 : Steps p.tables e below S0 (s₁.setTop (mkF m 29 #[.val (.int k)] [(.int (1 : Int32))])) := c1.trans (by
      refine XS.icmpYes X0.here hx rfl (pc0 := 3) (pc' := 24) rfl (hb hby d20_3) rfl (teq hc2).1 (by decide) (by decide) ?_
      refine XS.iconst X0.here hx rfl (hb hby d20_24) ?_
      refine XS.goto X0.here hx rfl (pc0 := 25) (pc' := 29) rfl (hb hby d20_25) (by decide) (by decide) ?_
      exact Steps.refl _)
    refine ⟨s₁, (some (.int (1 : Int32))), _, _, _, X0, by decide, by decide, (fun q => by cases q), N0, ?_, fun fs hr => ?_⟩
    · rw [e0]
      exact ⟨by simp [own_sp, own_i, hc2], rfl⟩
    · exact c3.trans (retN X0 hx (t := .boolean) hret (by simp) (hb hby d20_29) hr)
  · skip
    have c5 : Steps p.tables e below S0 (s₁.setTop (mkF m 9 #[.val (.int k)] [(.int (125 : Int32)), (.int k)])) := c1.trans (by
      refine XS.icmpNo X0.here hx rfl (hb hby d20_3) rfl (feq hc2).1 ?_
      refine XS.iloadN X0.here hx rfl (hb hby d20_6) rfl ?_
      refine XS.bipush X0.here hx rfl (hb hby d20_7) ?_
      exact Steps.refl _)
    by_cases hc6 : k = (125 : Int32)
    · skip
      have c7 : Steps p.tables e below S0 (s₁.setTop (mkF m 29 #[.val (.int k)] [(.int (1 : Int32))])) := c5.trans (by
        refine XS.icmpYes X0.here hx rfl (pc0 := 9) (pc' := 24) rfl (hb hby d20_9) rfl (teq hc6).1 (by decide) (by decide) ?_
        refine XS.iconst X0.here hx rfl (hb hby d20_24) ?_
        refine XS.goto X0.here hx rfl (pc0 := 25) (pc' := 29) rfl (hb hby d20_25) (by decide) (by decide) ?_
        exact Steps.refl _)
      refine ⟨s₁, (some (.int (1 : Int32))), _, _, _, X0, by decide, by decide, (fun q => by cases q), N0, ?_, fun fs hr => ?_⟩
      · rw [e0]
        exact ⟨by simp [own_sp, own_i, hc2, hc6], rfl⟩
      · exact c7.trans (retN X0 hx (t := .boolean) hret (by simp) (hb hby d20_29) hr)
    · skip
      have c9 : Steps p.tables e below S0 (s₁.setTop (mkF m 15 #[.val (.int k)] [(.int (36 : Int32)), (.int k)])) := c5.trans (by
        refine XS.icmpNo X0.here hx rfl (hb hby d20_9) rfl (feq hc6).1 ?_
        refine XS.iloadN X0.here hx rfl (hb hby d20_12) rfl ?_
        refine XS.bipush X0.here hx rfl (hb hby d20_13) ?_
        exact Steps.refl _)
      by_cases hc10 : k = (36 : Int32)
      · skip
        have c11 : Steps p.tables e below S0 (s₁.setTop (mkF m 29 #[.val (.int k)] [(.int (1 : Int32))])) := c9.trans (by
          refine XS.icmpYes X0.here hx rfl (pc0 := 15) (pc' := 24) rfl (hb hby d20_15) rfl (teq hc10).1 (by decide) (by decide) ?_
          refine XS.iconst X0.here hx rfl (hb hby d20_24) ?_
          refine XS.goto X0.here hx rfl (pc0 := 25) (pc' := 29) rfl (hb hby d20_25) (by decide) (by decide) ?_
          exact Steps.refl _)
        refine ⟨s₁, (some (.int (1 : Int32))), _, _, _, X0, by decide, by decide, (fun q => by cases q), N0, ?_, fun fs hr => ?_⟩
        · rw [e0]
          exact ⟨by simp [own_sp, own_i, hc2, hc6, hc10], rfl⟩
        · exact c11.trans (retN X0 hx (t := .boolean) hret (by simp) (hb hby d20_29) hr)
      · skip
        have c13 : Steps p.tables e below S0 (s₁.setTop (mkF m 21 #[.val (.int k)] [(.int (92 : Int32)), (.int k)])) := c9.trans (by
          refine XS.icmpNo X0.here hx rfl (hb hby d20_15) rfl (feq hc10).1 ?_
          refine XS.iloadN X0.here hx rfl (hb hby d20_18) rfl ?_
          refine XS.bipush X0.here hx rfl (hb hby d20_19) ?_
          exact Steps.refl _)
        by_cases hc14 : k = (92 : Int32)
        · skip
          have c15 : Steps p.tables e below S0 (s₁.setTop (mkF m 29 #[.val (.int k)] [(.int (1 : Int32))])) := c13.trans (by
            refine XS.icmpNo X0.here hx rfl (hb hby d20_21) rfl (teq hc14).2 ?_
            refine XS.iconst X0.here hx rfl (hb hby d20_24) ?_
            refine XS.goto X0.here hx rfl (pc0 := 25) (pc' := 29) rfl (hb hby d20_25) (by decide) (by decide) ?_
            exact Steps.refl _)
          refine ⟨s₁, (some (.int (1 : Int32))), _, _, _, X0, by decide, by decide, (fun q => by cases q), N0, ?_, fun fs hr => ?_⟩
          · rw [e0]
            exact ⟨by simp [own_sp, own_i, hc2, hc6, hc10, hc14], rfl⟩
          · exact c15.trans (retN X0 hx (t := .boolean) hret (by simp) (hb hby d20_29) hr)
        · skip
          have c17 : Steps p.tables e below S0 (s₁.setTop (mkF m 29 #[.val (.int k)] [(.int (0 : Int32))])) := c13.trans (by
            refine XS.icmpYes X0.here hx rfl (pc0 := 21) (pc' := 28) rfl (hb hby d20_21) rfl (feq hc14).2 (by decide) (by decide) ?_
            refine XS.iconst X0.here hx rfl (hb hby d20_28) ?_
            exact Steps.refl _)
          refine ⟨s₁, (some (.int (0 : Int32))), _, _, _, X0, by decide, by decide, (fun q => by cases q), N0, ?_, fun fs hr => ?_⟩
          · rw [e0]
            exact ⟨by simp [own_sp, own_i, hc2, hc6, hc10, hc14], rfl⟩
          · exact c17.trans (retN X0 hx (t := .boolean) hret (by simp) (hb hby d20_29) hr)
set_option maxRecDepth 65536 in
set_option maxHeartbeats 40000000 in
theorem rmSpc (l : Launch) (Z : State) (a0 : Array Value) (hw : ∀ d ∈ tables_1, d.before a0 Z = true) (k : Int32) (h0 : Heap) (O0 : Old Z Z.heap.size h0)  :
    own_NC l Z (⟨"com/example/attestor/attestor/interpolation/MessageTemplateEscapePinLaw", "special", "(C)Z"⟩ : MethodName) method_3_code 1 (some .boolean) ({ frames := 0, cells := 0, slots := 0, locals := 0 } : Room) #[(.int k)] h0 (fun v h => v = some (.int (own_i (own_sp k))) ∧ h = h0) := by
  refine own_nc (plainFor_of_name (by first | (simp [plainName, overriddenIn]; done) | decide +kernel)) ?_
  intro p e s m below meth c s₁ S0 X0 hx hby hml hret hnm hown hZ e0 cc
  have N0 := Fr.nil Z.heap.size
  have c0 : Steps p.tables e below S0 (s₁.setTop (mkF m 0 #[.val (.int k)] [])) := cc.trans (XT.entry rfl)
  have c1 : Steps p.tables e below S0 (s₁.setTop (mkF m 3 #[.val (.int k)] [(.int (123 : Int32)), (.int k)])) := c0.trans (by
    refine XS.iloadN X0.here hx rfl (hb hby d14_0) rfl ?_
    refine XS.bipush X0.here hx rfl (hb hby d14_1) ?_
    exact Steps.refl _)
  by_cases hc2 : k = (123 : Int32)
  · skip
    have c3 : Steps p.tables e below S0 (s₁.setTop (mkF m 29 #[.val (.int k)] [(.int (1 : Int32))])) := c1.trans (by
      refine XS.icmpYes X0.here hx rfl (pc0 := 3) (pc' := 24) rfl (hb hby d14_3) rfl (teq hc2).1 (by decide) (by decide) ?_
      refine XS.iconst X0.here hx rfl (hb hby d14_24) ?_
      refine XS.goto X0.here hx rfl (pc0 := 25) (pc' := 29) rfl (hb hby d14_25) (by decide) (by decide) ?_
      exact Steps.refl _)
    refine ⟨s₁, (some (.int (1 : Int32))), _, _, _, X0, by decide, by decide, (fun q => by cases q), N0, ?_, fun fs hr => ?_⟩
    · rw [e0]
      exact ⟨by simp [own_sp, own_i, hc2], rfl⟩
    · exact c3.trans (retN X0 hx (t := .boolean) hret (by simp) (hb hby d14_29) hr)
  · skip
    have c5 : Steps p.tables e below S0 (s₁.setTop (mkF m 9 #[.val (.int k)] [(.int (125 : Int32)), (.int k)])) := c1.trans (by
      refine XS.icmpNo X0.here hx rfl (hb hby d14_3) rfl (feq hc2).1 ?_
      refine XS.iloadN X0.here hx rfl (hb hby d14_6) rfl ?_
      refine XS.bipush X0.here hx rfl (hb hby d14_7) ?_
      exact Steps.refl _)
    by_cases hc6 : k = (125 : Int32)
    · skip
      have c7 : Steps p.tables e below S0 (s₁.setTop (mkF m 29 #[.val (.int k)] [(.int (1 : Int32))])) := c5.trans (by
        refine XS.icmpYes X0.here hx rfl (pc0 := 9) (pc' := 24) rfl (hb hby d14_9) rfl (teq hc6).1 (by decide) (by decide) ?_
        refine XS.iconst X0.here hx rfl (hb hby d14_24) ?_
        refine XS.goto X0.here hx rfl (pc0 := 25) (pc' := 29) rfl (hb hby d14_25) (by decide) (by decide) ?_
        exact Steps.refl _)
      refine ⟨s₁, (some (.int (1 : Int32))), _, _, _, X0, by decide, by decide, (fun q => by cases q), N0, ?_, fun fs hr => ?_⟩
      · rw [e0]
        exact ⟨by simp [own_sp, own_i, hc2, hc6], rfl⟩
      · exact c7.trans (retN X0 hx (t := .boolean) hret (by simp) (hb hby d14_29) hr)
    · skip
      have c9 : Steps p.tables e below S0 (s₁.setTop (mkF m 15 #[.val (.int k)] [(.int (36 : Int32)), (.int k)])) := c5.trans (by
        refine XS.icmpNo X0.here hx rfl (hb hby d14_9) rfl (feq hc6).1 ?_
        refine XS.iloadN X0.here hx rfl (hb hby d14_12) rfl ?_
        refine XS.bipush X0.here hx rfl (hb hby d14_13) ?_
        exact Steps.refl _)
      by_cases hc10 : k = (36 : Int32)
      · skip
        have c11 : Steps p.tables e below S0 (s₁.setTop (mkF m 29 #[.val (.int k)] [(.int (1 : Int32))])) := c9.trans (by
          refine XS.icmpYes X0.here hx rfl (pc0 := 15) (pc' := 24) rfl (hb hby d14_15) rfl (teq hc10).1 (by decide) (by decide) ?_
          refine XS.iconst X0.here hx rfl (hb hby d14_24) ?_
          refine XS.goto X0.here hx rfl (pc0 := 25) (pc' := 29) rfl (hb hby d14_25) (by decide) (by decide) ?_
          exact Steps.refl _)
        refine ⟨s₁, (some (.int (1 : Int32))), _, _, _, X0, by decide, by decide, (fun q => by cases q), N0, ?_, fun fs hr => ?_⟩
        · rw [e0]
          exact ⟨by simp [own_sp, own_i, hc2, hc6, hc10], rfl⟩
        · exact c11.trans (retN X0 hx (t := .boolean) hret (by simp) (hb hby d14_29) hr)
      · skip
        have c13 : Steps p.tables e below S0 (s₁.setTop (mkF m 21 #[.val (.int k)] [(.int (92 : Int32)), (.int k)])) := c9.trans (by
          refine XS.icmpNo X0.here hx rfl (hb hby d14_15) rfl (feq hc10).1 ?_
          refine XS.iloadN X0.here hx rfl (hb hby d14_18) rfl ?_
          refine XS.bipush X0.here hx rfl (hb hby d14_19) ?_
          exact Steps.refl _)
        by_cases hc14 : k = (92 : Int32)
        · skip
          have c15 : Steps p.tables e below S0 (s₁.setTop (mkF m 29 #[.val (.int k)] [(.int (1 : Int32))])) := c13.trans (by
            refine XS.icmpNo X0.here hx rfl (hb hby d14_21) rfl (teq hc14).2 ?_
            refine XS.iconst X0.here hx rfl (hb hby d14_24) ?_
            refine XS.goto X0.here hx rfl (pc0 := 25) (pc' := 29) rfl (hb hby d14_25) (by decide) (by decide) ?_
            exact Steps.refl _)
          refine ⟨s₁, (some (.int (1 : Int32))), _, _, _, X0, by decide, by decide, (fun q => by cases q), N0, ?_, fun fs hr => ?_⟩
          · rw [e0]
            exact ⟨by simp [own_sp, own_i, hc2, hc6, hc10, hc14], rfl⟩
          · exact c15.trans (retN X0 hx (t := .boolean) hret (by simp) (hb hby d14_29) hr)
        · skip
          have c17 : Steps p.tables e below S0 (s₁.setTop (mkF m 29 #[.val (.int k)] [(.int (0 : Int32))])) := c13.trans (by
            refine XS.icmpYes X0.here hx rfl (pc0 := 21) (pc' := 28) rfl (hb hby d14_21) rfl (feq hc14).2 (by decide) (by decide) ?_
            refine XS.iconst X0.here hx rfl (hb hby d14_28) ?_
            exact Steps.refl _)
          refine ⟨s₁, (some (.int (0 : Int32))), _, _, _, X0, by decide, by decide, (fun q => by cases q), N0, ?_, fun fs hr => ?_⟩
          · rw [e0]
            exact ⟨by simp [own_sp, own_i, hc2, hc6, hc10, hc14], rfl⟩
          · exact c17.trans (retN X0 hx (t := .boolean) hret (by simp) (hb hby d14_29) hr)
set_option maxRecDepth 65536 in
set_option maxHeartbeats 40000000 in
theorem loopB {p : Program} {l : Launch} {e : Env} {s : State} {m : MethodId} {args : Array Value} {below : List Frame} {meth : Method} {c : Code} {S0 : State} {Z : State} {a0 : Array Value} (hw : ∀ d ∈ tables_1, d.before a0 Z = true) (cs : List Int32) (x u : Addr) (ku : ClassId) (z : Int32) (fm fo : Value) (g0 : Heap) (OG : Old Z Z.heap.size g0) (E : Exa Z g0 x "java/lang/String") (V : Fld Z g0 x "java/lang/String" "value" "[B" (.ref u)) (Cd : Fld Z g0 x "java/lang/String" "coder" "B" (.int (0 : Int32))) (K : Arv Z g0 u ku .byte (Int32.ofNat (cs : List Int32).length) (((cs : List Int32).map (fun c : Int32 => c.toInt8.toInt32)).map Value.int) (.int (0 : Int32))) (hn4 : cs.length ≤ 4) (hB : ∀ c ∈ cs, own_B c) (SC : Sta Z Z.heap "java/lang/String" "COMPACT_STRINGS" "Z" (.int z)) (hz : ¬ z = 0) (SF : Sta Z Z.heap "jdk/internal/util/Preconditions" "SIOOBE_FORMATTER" "Ljava/util/function/BiFunction;" fm) (hfm : fm.isRef = true) (SI : Sta Z Z.heap "jdk/internal/util/Preconditions" "IOOBE_FORMATTER" "Ljava/util/function/BiFunction;" fo) (hfo : fo.isRef = true) (hx : p.tables.exec = Jvm.exec) (hZ : Z.Warmed39 s.vm) (hby : c.code = prog_7_method_5_code) (hml : c.maxLocals = 4) (hown : s.vm.findClass "com/example/attestor/attestor/interpolation/MessageTemplate" = some m.cls) :
    ∀ (k i : Nat) (z3 : Slot) (T0 : State) (locs : List Loc) (cells slots : Nat) (h0 : Heap) (b t : Addr) (kb : ClassId) (L : Nat), k = cs.length - i → i ≤ cs.length → (z3 = .unset ∨ ∃ w, z3 = .val w ∧ w.category = 1) → Stand p l e ({ frames := 6, cells := 12, slots := 120, locals := 113 } : Room) s m args below meth c T0 locs cells slots → Fr Z.heap.size locs → T0.heap = h0 → Old Z Z.heap.size h0 → Keep g0 h0 [] → g0.size ≤ b → g0.size ≤ t → own_SB Z h0 b t kb L (own_esc (cs.take i)) → (L = cs.length + 1 ∨ L = 2 * cs.length + 4) → cells + 2 * k ≤ 10 → slots + 24 * k ≤ 105 →
      Steps p.tables e below S0 (T0.setTop (mkF m 4 #[.val (.ref x), .val (.ref b), .val (.int (Int32.ofNat i)), z3] [])) →
      ∃ (T' : State) (locs' : List Loc) (h' : Heap) (t' : Addr) (kb' : ClassId) (L' : Nat) (a' : Int32) (z' : Slot), Stand p l e ({ frames := 6, cells := 12, slots := 120, locals := 113 } : Room) s m args below meth c T' locs' 10 105 ∧ Fr Z.heap.size locs' ∧ T'.heap = h' ∧ Old Z Z.heap.size h' ∧ Keep g0 h' [] ∧ g0.size ≤ t' ∧ own_SB Z h' b t' kb' L' (own_esc cs) ∧ Steps p.tables e below S0 (T'.setTop (mkF m 76 #[.val (.ref x), .val (.ref b), .val (.int a'), z'] [])) := by
  intro k
  induction k with
  | zero =>
    intro i z3 T0 locs cells slots h0 b t kb L hik hin hz3 X0 N0 e0 O0 KG bg tg hsb hLn hcm hsm c0
    have hge : ¬ (Int32.ofNat i < Int32.ofNat cs.length) := by rw [own_lt32 (by omega) (by omega)]; omega
    have hall : cs.take i = cs := List.take_of_length_le (by omega)
    obtain ⟨Eb, Fc, Fo, Fv, Vt, Et, hle, hL4, hbt, gb, gt⟩ := id hsb
    have c101 : Steps p.tables e below S0 (T0.setTop (mkF m 6 #[.val (.ref x), .val (.ref b), .val (.int (Int32.ofNat i)), z3] [(.ref x), (.int (Int32.ofNat i))])) := c0.trans (by
      refine XS.iloadN X0.here hx rfl (hb hby d6_4) rfl ?_
      refine XS.aloadN X0.here hx rfl (hb hby d6_5) rfl rfl ?_
      exact Steps.refl _)
    obtain ⟨v102, T102, L102, X102, ⟨rfl, rfl, e102⟩, c102'⟩ := own_virt X0 hx hml hZ hown (hw _ (List.mem_of_getElem? (i := 34) rfl)) (hw _ (List.mem_of_getElem? (i := 35) rfl)) (hw _ (List.mem_of_getElem? (i := 37) rfl)) (hw _ (List.mem_of_getElem? (i := 36) rfl)) (hw _ (List.mem_of_getElem? (i := 37) rfl)) (by decide) (Q := fun v h' L => v = some (.int (Int32.ofNat (cs : List Int32).length)) ∧ L = [] ∧ h' = h0) (kc := 0) (ks := 0) (h := h0) (W := 1) (b := x) (argsL := []) (rest := [(.int (Int32.ofNat i))]) (StrChars.Road.lenW (s := s) (R := ({ frames := 6, cells := 12, slots := 120, locals := 113 } : Room)) (W := 1) hZ (own_wl hw) (kI := 4) (hw _ (List.mem_of_getElem? (i := 9) rfl)) (cs := cs) (E.keep KG) (V.keep KG nin0) (Cd.keep KG nin0) (K.keep KG nin0) (StrChars.Road.codOf (n := (cs : List Int32).length) rfl (fun c hc => (hB c hc).rng.2)) (fun c hc => (hB c hc).rng2) (SC.ext O0.2) hz (by omega) (by decide) (by decide)) (E.keep KG) c101 (lenOf pd_9 rfl) rfl (hb hby d6_6) e0 (hc := by show _ ≤ 12; omega) (hs := by show _ ≤ 120; omega)
    have N102 := Fr.app N0 (Fr.nil _)
    have c102 : Steps p.tables e below S0 (T102.setTop (mkF m 9 #[.val (.ref x), .val (.ref b), .val (.int (Int32.ofNat i)), z3] [(.int (Int32.ofNat (cs : List Int32).length)), (.int (Int32.ofNat i))])) := c102'
    have c103 : Steps p.tables e below S0 (T102.setTop (mkF m 76 #[.val (.ref x), .val (.ref b), .val (.int (Int32.ofNat i)), z3] [])) := c102.trans (by
      refine XS.icmpYes X102.here hx rfl (pc0 := 9) (pc' := 76) rfl (hb hby d6_9) rfl (flt hge).2.1 (by decide) (by decide) ?_
      exact Steps.refl _)
    exact ⟨T102, _, _, t, kb, L, _, _, X102.more (by omega) (by omega), N102, e102, O0, KG, tg, by rw [← hall]; exact hsb, c103⟩
  | succ k ih =>
    intro i z3 T0 locs cells slots h0 b t kb L hik hin hz3 X0 N0 e0 O0 KG bg tg hsb hLn hcm hsm c0
    have hi : i < cs.length := by omega
    have hlt : Int32.ofNat i < Int32.ofNat cs.length := by rw [own_lt32 (by omega) (by omega)]; omega
    have hBc := own_at9B hB hi
    have hel := own_escT cs i (by omega)
    obtain ⟨Eb, Fc, Fo, Fv, Vt, Et, hle, hL4, hbt, gb, gt⟩ := id hsb
    have c1 : Steps p.tables e below S0 (T0.setTop (mkF m 6 #[.val (.ref x), .val (.ref b), .val (.int (Int32.ofNat i)), z3] [(.ref x), (.int (Int32.ofNat i))])) := c0.trans (by
      refine XS.iloadN X0.here hx rfl (hb hby d6_4) rfl ?_
      refine XS.aloadN X0.here hx rfl (hb hby d6_5) rfl rfl ?_
      exact Steps.refl _)
    obtain ⟨v2, T2, L2, X2, ⟨rfl, rfl, e2⟩, c2'⟩ := own_virt X0 hx hml hZ hown (hw _ (List.mem_of_getElem? (i := 34) rfl)) (hw _ (List.mem_of_getElem? (i := 35) rfl)) (hw _ (List.mem_of_getElem? (i := 37) rfl)) (hw _ (List.mem_of_getElem? (i := 36) rfl)) (hw _ (List.mem_of_getElem? (i := 37) rfl)) (by decide) (Q := fun v h' L => v = some (.int (Int32.ofNat (cs : List Int32).length)) ∧ L = [] ∧ h' = h0) (kc := 0) (ks := 0) (h := h0) (W := 1) (b := x) (argsL := []) (rest := [(.int (Int32.ofNat i))]) (StrChars.Road.lenW (s := s) (R := ({ frames := 6, cells := 12, slots := 120, locals := 113 } : Room)) (W := 1) hZ (own_wl hw) (kI := 4) (hw _ (List.mem_of_getElem? (i := 9) rfl)) (cs := cs) (E.keep KG) (V.keep KG nin0) (Cd.keep KG nin0) (K.keep KG nin0) (StrChars.Road.codOf (n := (cs : List Int32).length) rfl (fun c hc => (hB c hc).rng.2)) (fun c hc => (hB c hc).rng2) (SC.ext O0.2) hz (by omega) (by decide) (by decide)) (E.keep KG) c1 (lenOf pd_9 rfl) rfl (hb hby d6_6) e0 (hc := by show _ ≤ 12; omega) (hs := by show _ ≤ 120; omega)
    have N2 := Fr.app N0 (Fr.nil _)
    have c2 : Steps p.tables e below S0 (T2.setTop (mkF m 9 #[.val (.ref x), .val (.ref b), .val (.int (Int32.ofNat i)), z3] [(.int (Int32.ofNat (cs : List Int32).length)), (.int (Int32.ofNat i))])) := c2'
    have c3 : Steps p.tables e below S0 (T2.setTop (mkF m 14 #[.val (.ref x), .val (.ref b), .val (.int (Int32.ofNat i)), z3] [(.int (Int32.ofNat i)), (.ref x)])) := c2.trans (by
      refine XS.icmpNo X2.here hx rfl (hb hby d6_9) rfl (tlt hlt).2.1 ?_
      refine XS.aloadN X2.here hx rfl (hb hby d6_12) rfl rfl ?_
      refine XS.iloadN X2.here hx rfl (hb hby d6_13) rfl ?_
      exact Steps.refl _)
    obtain ⟨v4, T4, L4, X4, ⟨rfl, rfl, e4⟩, c4'⟩ := own_virt X2 hx hml hZ hown (hw _ (List.mem_of_getElem? (i := 65) rfl)) (hw _ (List.mem_of_getElem? (i := 66) rfl)) (hw _ (List.mem_of_getElem? (i := 68) rfl)) (hw _ (List.mem_of_getElem? (i := 67) rfl)) (hw _ (List.mem_of_getElem? (i := 68) rfl)) (by decide) (Q := fun v h' L => v = some (.int (own_at9 cs i)) ∧ L = [] ∧ h' = h0) (kc := 0) (ks := 0) (h := h0) (W := 0) (b := x) (argsL := [(.int (Int32.ofNat i))]) (rest := []) (StrChars.Road.chN (s := s) (R := ({ frames := 6, cells := 12, slots := 120, locals := 113 } : Room)) (W := 0) hZ (own_wch hw) (kI := 4) (hw _ (List.mem_of_getElem? (i := 9) rfl)) (cs := cs) (E.keep KG) (V.keep KG nin0) (Cd.keep KG nin0) (K.keep KG nin0) (StrChars.Road.codOf (n := (cs : List Int32).length) rfl (fun c hc => (hB c hc).rng.2)) (fun c hc => (hB c hc).rng2) (SC.ext O0.2) hz (SF.ext O0.2) hfm (by omega) (i := i) hi rfl (by decide) (by decide)) (E.keep KG) c3 (lenOf pd_17 rfl) rfl (hb hby d6_14) e2 (hc := by show _ ≤ 12; omega) (hs := by show _ ≤ 120; omega)
    have N4 := Fr.app N2 (Fr.nil _)
    have c4 : Steps p.tables e below S0 (T4.setTop (mkF m 17 #[.val (.ref x), .val (.ref b), .val (.int (Int32.ofNat i)), z3] [(.int (own_at9 cs i))])) := c4'
    have c5 : Steps p.tables e below S0 (T4.setTop (mkF m 19 #[.val (.ref x), .val (.ref b), .val (.int (Int32.ofNat i)), .val (.int (own_at9 cs i))] [(.int (own_at9 cs i))])) := c4.trans (by
      refine XS.istoreN X4.here hx rfl (hb hby d6_17) rfl (l' := #[.val (.ref x), .val (.ref b), .val (.int (Int32.ofNat i)), .val (.int (own_at9 cs i))]) (by rw [XS.store1 (o := z3) rfl hz3 rfl]; rfl) ?_
      refine XS.iloadN X4.here hx rfl (hb hby d6_18) rfl ?_
      exact Steps.refl _)
    obtain ⟨v6, T6, L6, X6, ⟨N6', rfl, e6⟩, c6'⟩ := own_stat X4 hx hml hZ hown (hw _ (List.mem_of_getElem? (i := 87) rfl)) (hw _ (List.mem_of_getElem? (i := 88) rfl)) (hw _ (List.mem_of_getElem? (i := 32) rfl)) (hw _ (List.mem_of_getElem? (i := 89) rfl)) (by decide) (kc := 0) (ks := 0) (h := h0) (W := 0) (argsL := [(.int (own_at9 cs i))]) (rest := []) (own_pay (W := 0) (rmIsE l Z a0 hw (own_at9 cs i) h0 O0) hZ (hw _ (List.mem_of_getElem? (i := 89) rfl)) (hw _ (List.mem_of_getElem? (i := 32) rfl)) (by decide) (by decide)) c5 (lenOf pd_6 rfl) rfl (hb hby d6_19) e4 (hc := by show _ ≤ 12; omega) (hs := by show _ ≤ 120; omega)
    have N6 := Fr.app N4 N6'
    have c6 : Steps p.tables e below S0 (T6.setTop (mkF m 22 #[.val (.ref x), .val (.ref b), .val (.int (Int32.ofNat i)), .val (.int (own_at9 cs i))] [(.int (own_i (own_sp (own_at9 cs i))))])) := c6'
    by_cases hc7 : (own_i (own_sp (own_at9 cs i))) = (0 : Int32)
    · skip
      have c8 : Steps p.tables e below S0 (T6.setTop (mkF m 66 #[.val (.ref x), .val (.ref b), .val (.int (Int32.ofNat i)), .val (.int (own_at9 cs i))] [(.int (own_at9 cs i)), (.ref b)])) := c6.trans (by
        refine XS.ifYes X6.here hx rfl (pc0 := 22) (pc' := 60) rfl (hb hby d6_22) rfl ((if0 _ _).trans (teq hc7).1) (by decide) (by decide) ?_
        refine XS.aloadN X6.here hx rfl (hb hby d6_60) rfl rfl ?_
        refine XS.ifnullNo X6.here hx rfl (hb hby d6_61) rfl ?_
        refine XS.aloadN X6.here hx rfl (hb hby d6_64) rfl rfl ?_
        refine XS.iloadN X6.here hx rfl (hb hby d6_65) rfl ?_
        exact Steps.refl _)
      obtain ⟨v9, T9, L9, X9, ⟨N9', rfl, t9, kb9, M9, SB9, K9, ht9, hM9⟩, c9'⟩ := own_virt X6 hx hml hZ hown (hw _ (List.mem_of_getElem? (i := 158) rfl)) (hw _ (List.mem_of_getElem? (i := 159) rfl)) (hw _ (List.mem_of_getElem? (i := 161) rfl)) (hw _ (List.mem_of_getElem? (i := 160) rfl)) (hw _ (List.mem_of_getElem? (i := 161) rfl)) (by decide) (kc := 1) (ks := 12) (h := h0) (W := 0) (b := b) (argsL := [(.int (own_at9 cs i))]) (rest := []) (own_pay (W := 0) (rmSC l Z a0 hw b t kb L (own_esc (cs.take i)) (own_at9 cs i) z fm h0 O0 hsb hBc (by omega) SC hz SF hfm) hZ (hw _ (List.mem_of_getElem? (i := 162) rfl)) (hw _ (List.mem_of_getElem? (i := 92) rfl)) (by decide) (by decide)) Eb c8 (lenOf pd_18 rfl) rfl (hb hby d6_66) e6 (hc := by show _ ≤ 12; omega) (hs := by show _ ≤ 120; omega)
      have N9 := Fr.app N6 N9'
      have c9 : Steps p.tables e below S0 (T9.setTop (mkF m 69 #[.val (.ref x), .val (.ref b), .val (.int (Int32.ofNat i)), .val (.int (own_at9 cs i))] [(.ref b)])) := c9'
      have KG9 := own_kp KG K9 bg tg
      have tg9 := own_tp KG tg ht9
      have ln9 : ((own_esc (cs.take i)) ++ [(own_at9 cs i)]).length = (own_esc (cs.take i)).length + 1 := by simp
      obtain ⟨Eb9, Fc9, Fo9, Fv9, Vt9, Et9, hle9, hL49, hbt9, gb9, gt9⟩ := id SB9
      have c10 : Steps p.tables e below S0 (T9.setTop (mkF m 4 #[.val (.ref x), .val (.ref b), .val (.int ((Int32.ofNat i) + (1 : Int32))), .val (.int (own_at9 cs i))] [])) := c9.trans (by
        refine XS.pop X9.here hx rfl (hb hby d6_69) rfl rfl ?_
        refine XS.iinc X9.here hx rfl (hb hby d6_70) rfl (l' := #[.val (.ref x), .val (.ref b), .val (.int ((Int32.ofNat i) + (1 : Int32))), .val (.int (own_at9 cs i))]) rfl ?_
        refine XS.goto X9.here hx rfl (pc0 := 73) (pc' := 4) rfl (hb hby d6_73) (by decide) (by decide) ?_
        exact Steps.refl _)
      have sp11 : own_sp (own_at9 cs i) = false := (own_i0 _).mp hc7
      have SZ12 : own_SB Z T9.heap b t9 kb9 M9 (own_esc (cs.take (i + 1))) := by rw [← own_esc0 cs i hi sp11]; exact SB9
      have cz13 : Steps p.tables e below S0 (T9.setTop (mkF m 4 #[.val (.ref x), .val (.ref b), .val (.int (Int32.ofNat (i + 1))), .val (.int (own_at9 cs i))] [])) := by rw [← own_succ]; exact c10
      exact ih  (i + 1) _ T9 _ _ _ _ b t9 kb9 M9 (by omega) (by omega) (Or.inr ⟨_, rfl, rfl⟩) X9 N9 rfl (O0.keep K9 (allS gb9 (allS gt all0))) KG9 bg tg9 SZ12 (by omega) (by omega) (by omega) cz13
    · skip
      have c14 : Steps p.tables e below S0 (T6.setTop (mkF m 56 #[.val (.ref x), .val (.ref b), .val (.int (Int32.ofNat i)), .val (.int (own_at9 cs i))] [(.int (92 : Int32)), (.ref b)])) := c6.trans (by
        refine XS.ifNo X6.here hx rfl (hb hby d6_22) rfl ((if0 _ _).trans (feq hc7).1) ?_
        refine XS.aloadN X6.here hx rfl (hb hby d6_25) rfl rfl ?_
        refine XS.ifnonnullYes X6.here hx rfl (pc0 := 26) (pc' := 51) rfl (hb hby d6_26) rfl (by decide) (by decide) ?_
        refine XS.aloadN X6.here hx rfl (hb hby d6_51) rfl rfl ?_
        refine XS.astoreN X6.here hx rfl (hb hby d6_52) rfl rfl (l' := #[.val (.ref x), .val (.ref b), .val (.int (Int32.ofNat i)), .val (.int (own_at9 cs i))]) rfl ?_
        refine XS.aloadN X6.here hx rfl (hb hby d6_53) rfl rfl ?_
        refine XS.bipush X6.here hx rfl (hb hby d6_54) ?_
        exact Steps.refl _)
      obtain ⟨v15, T15, L15, X15, ⟨N15', rfl, t15, kb15, M15, SB15, K15, ht15, hM15⟩, c15'⟩ := own_virt X6 hx hml hZ hown (hw _ (List.mem_of_getElem? (i := 158) rfl)) (hw _ (List.mem_of_getElem? (i := 159) rfl)) (hw _ (List.mem_of_getElem? (i := 161) rfl)) (hw _ (List.mem_of_getElem? (i := 160) rfl)) (hw _ (List.mem_of_getElem? (i := 161) rfl)) (by decide) (kc := 1) (ks := 12) (h := h0) (W := 0) (b := b) (argsL := [(.int (92 : Int32))]) (rest := []) (own_pay (W := 0) (rmSC l Z a0 hw b t kb L (own_esc (cs.take i)) (92 : Int32) z fm h0 O0 hsb (own_Bl 92 (by decide)) (by omega) SC hz SF hfm) hZ (hw _ (List.mem_of_getElem? (i := 162) rfl)) (hw _ (List.mem_of_getElem? (i := 92) rfl)) (by decide) (by decide)) Eb c14 (lenOf pd_18 rfl) rfl (hb hby d6_56) e6 (hc := by show _ ≤ 12; omega) (hs := by show _ ≤ 120; omega)
      have N15 := Fr.app N6 N15'
      have c15 : Steps p.tables e below S0 (T15.setTop (mkF m 59 #[.val (.ref x), .val (.ref b), .val (.int (Int32.ofNat i)), .val (.int (own_at9 cs i))] [(.ref b)])) := c15'
      have KG15 := own_kp KG K15 bg tg
      have tg15 := own_tp KG tg ht15
      have ln15 : ((own_esc (cs.take i)) ++ [(92 : Int32)]).length = (own_esc (cs.take i)).length + 1 := by simp
      obtain ⟨Eb15, Fc15, Fo15, Fv15, Vt15, Et15, hle15, hL415, hbt15, gb15, gt15⟩ := id SB15
      have c16 : Steps p.tables e below S0 (T15.setTop (mkF m 66 #[.val (.ref x), .val (.ref b), .val (.int (Int32.ofNat i)), .val (.int (own_at9 cs i))] [(.int (own_at9 cs i)), (.ref b)])) := c15.trans (by
        refine XS.pop X15.here hx rfl (hb hby d6_59) rfl rfl ?_
        refine XS.aloadN X15.here hx rfl (hb hby d6_60) rfl rfl ?_
        refine XS.ifnullNo X15.here hx rfl (hb hby d6_61) rfl ?_
        refine XS.aloadN X15.here hx rfl (hb hby d6_64) rfl rfl ?_
        refine XS.iloadN X15.here hx rfl (hb hby d6_65) rfl ?_
        exact Steps.refl _)
      obtain ⟨v17, T17, L17, X17, ⟨N17', rfl, t17, kb17, M17, SB17, K17, ht17, hM17⟩, c17'⟩ := own_virt X15 hx hml hZ hown (hw _ (List.mem_of_getElem? (i := 158) rfl)) (hw _ (List.mem_of_getElem? (i := 159) rfl)) (hw _ (List.mem_of_getElem? (i := 161) rfl)) (hw _ (List.mem_of_getElem? (i := 160) rfl)) (hw _ (List.mem_of_getElem? (i := 161) rfl)) (by decide) (kc := 1) (ks := 12) (h := T15.heap) (W := 0) (b := b) (argsL := [(.int (own_at9 cs i))]) (rest := []) (own_pay (W := 0) (rmSC l Z a0 hw b t15 kb15 M15 ((own_esc (cs.take i)) ++ [(92 : Int32)]) (own_at9 cs i) z fm T15.heap (O0.keep K15 (allS gb15 (allS gt all0))) SB15 hBc (by omega) SC hz SF hfm) hZ (hw _ (List.mem_of_getElem? (i := 162) rfl)) (hw _ (List.mem_of_getElem? (i := 92) rfl)) (by decide) (by decide)) Eb15 c16 (lenOf pd_18 rfl) rfl (hb hby d6_66) rfl (hc := by show _ ≤ 12; omega) (hs := by show _ ≤ 120; omega)
      have N17 := Fr.app N15 N17'
      have c17 : Steps p.tables e below S0 (T17.setTop (mkF m 69 #[.val (.ref x), .val (.ref b), .val (.int (Int32.ofNat i)), .val (.int (own_at9 cs i))] [(.ref b)])) := c17'
      have KG17 := own_kp KG15 K17 bg tg15
      have tg17 := own_tp KG15 tg15 ht17
      have ln17 : (((own_esc (cs.take i)) ++ [(92 : Int32)]) ++ [(own_at9 cs i)]).length = ((own_esc (cs.take i)) ++ [(92 : Int32)]).length + 1 := by simp
      obtain ⟨Eb17, Fc17, Fo17, Fv17, Vt17, Et17, hle17, hL417, hbt17, gb17, gt17⟩ := id SB17
      have c18 : Steps p.tables e below S0 (T17.setTop (mkF m 4 #[.val (.ref x), .val (.ref b), .val (.int ((Int32.ofNat i) + (1 : Int32))), .val (.int (own_at9 cs i))] [])) := c17.trans (by
        refine XS.pop X17.here hx rfl (hb hby d6_69) rfl rfl ?_
        refine XS.iinc X17.here hx rfl (hb hby d6_70) rfl (l' := #[.val (.ref x), .val (.ref b), .val (.int ((Int32.ofNat i) + (1 : Int32))), .val (.int (own_at9 cs i))]) rfl ?_
        refine XS.goto X17.here hx rfl (pc0 := 73) (pc' := 4) rfl (hb hby d6_73) (by decide) (by decide) ?_
        exact Steps.refl _)
      have sp19 : own_sp (own_at9 cs i) = true := by cases q : own_sp (own_at9 cs i) with | true => rfl | false => exact absurd (own_iF q) hc7
      have SZ20 : own_SB Z T17.heap b t17 kb17 M17 (own_esc (cs.take (i + 1))) := by rw [← own_esc1 cs i hi sp19]; exact SB17
      have cz21 : Steps p.tables e below S0 (T17.setTop (mkF m 4 #[.val (.ref x), .val (.ref b), .val (.int (Int32.ofNat (i + 1))), .val (.int (own_at9 cs i))] [])) := by rw [← own_succ]; exact c18
      exact ih  (i + 1) _ T17 _ _ _ _ b t17 kb17 M17 (by omega) (by omega) (Or.inr ⟨_, rfl, rfl⟩) X17 N17 rfl ((O0.keep K15 (allS gb17 (allS gt all0))).keep K17 (allS gb17 (allS gt15 all0))) KG17 bg tg17 SZ20 (by omega) (by omega) (by omega) cz21
set_option maxRecDepth 65536 in
set_option maxHeartbeats 40000000 in
theorem loopA {p : Program} {l : Launch} {e : Env} {s : State} {m : MethodId} {args : Array Value} {below : List Frame} {meth : Method} {c : Code} {S0 : State} {Z : State} {a0 : Array Value} (hw : ∀ d ∈ tables_1, d.before a0 Z = true) (cs : List Int32) (x u : Addr) (ku : ClassId) (z : Int32) (fm fo : Value) (h0 : Heap) (O0 : Old Z Z.heap.size h0) (E : Exa Z h0 x "java/lang/String") (V : Fld Z h0 x "java/lang/String" "value" "[B" (.ref u)) (Cd : Fld Z h0 x "java/lang/String" "coder" "B" (.int (0 : Int32))) (K : Arv Z h0 u ku .byte (Int32.ofNat (cs : List Int32).length) (((cs : List Int32).map (fun c : Int32 => c.toInt8.toInt32)).map Value.int) (.int (0 : Int32))) (hn4 : cs.length ≤ 4) (hB : ∀ c ∈ cs, own_B c) (SC : Sta Z Z.heap "java/lang/String" "COMPACT_STRINGS" "Z" (.int z)) (hz : ¬ z = 0) (SF : Sta Z Z.heap "jdk/internal/util/Preconditions" "SIOOBE_FORMATTER" "Ljava/util/function/BiFunction;" fm) (hfm : fm.isRef = true) (SI : Sta Z Z.heap "jdk/internal/util/Preconditions" "IOOBE_FORMATTER" "Ljava/util/function/BiFunction;" fo) (hfo : fo.isRef = true) (hx : p.tables.exec = Jvm.exec) (hZ : Z.Warmed39 s.vm) (hby : c.code = prog_7_method_5_code) (hml : c.maxLocals = 4) (hown : s.vm.findClass "com/example/attestor/attestor/interpolation/MessageTemplate" = some m.cls) :
    ∀ (k i : Nat) (z3 : Slot) (T0 : State) (locs : List Loc), k = cs.length - i → i ≤ cs.length → (z3 = .unset ∨ ∃ w, z3 = .val w ∧ w.category = 1) → own_esc (cs.take i) = cs.take i → Stand p l e ({ frames := 6, cells := 12, slots := 120, locals := 113 } : Room) s m args below meth c T0 locs 0 0 → Fr Z.heap.size locs → T0.heap = h0 →
      Steps p.tables e below S0 (T0.setTop (mkF m 4 #[.val (.ref x), .val .null, .val (.int (Int32.ofNat i)), z3] [])) →
      (∃ (T' : State) (locs' : List Loc) (a' : Int32) (z' : Slot), Stand p l e ({ frames := 6, cells := 12, slots := 120, locals := 113 } : Room) s m args below meth c T' locs' 0 0 ∧ Fr Z.heap.size locs' ∧ T'.heap = h0 ∧ own_esc cs = cs ∧ Steps p.tables e below S0 (T'.setTop (mkF m 76 #[.val (.ref x), .val .null, .val (.int a'), z'] []))) ∨ (∃ b : Addr, h0.size ≤ b ∧ cs.length < (own_esc cs).length ∧ ∃ (T' : State) (locs' : List Loc) (h' : Heap) (t' : Addr) (kb' : ClassId) (L' : Nat) (a' : Int32) (z' : Slot), Stand p l e ({ frames := 6, cells := 12, slots := 120, locals := 113 } : Room) s m args below meth c T' locs' 10 105 ∧ Fr Z.heap.size locs' ∧ T'.heap = h' ∧ Old Z Z.heap.size h' ∧ Keep h0 h' [] ∧ h0.size ≤ t' ∧ own_SB Z h' b t' kb' L' (own_esc cs) ∧ Steps p.tables e below S0 (T'.setTop (mkF m 76 #[.val (.ref x), .val (.ref b), .val (.int a'), z'] []))) := by
  intro k
  induction k with
  | zero =>
    intro i z3 T0 locs hik hin hz3 hno X0 N0 e0 c0
    have hge : ¬ (Int32.ofNat i < Int32.ofNat cs.length) := by rw [own_lt32 (by omega) (by omega)]; omega
    have hall : cs.take i = cs := List.take_of_length_le (by omega)
    have c101 : Steps p.tables e below S0 (T0.setTop (mkF m 6 #[.val (.ref x), .val .null, .val (.int (Int32.ofNat i)), z3] [(.ref x), (.int (Int32.ofNat i))])) := c0.trans (by
      refine XS.iloadN X0.here hx rfl (hb hby d6_4) rfl ?_
      refine XS.aloadN X0.here hx rfl (hb hby d6_5) rfl rfl ?_
      exact Steps.refl _)
    obtain ⟨v102, T102, L102, X102, ⟨rfl, rfl, e102⟩, c102'⟩ := own_virt X0 hx hml hZ hown (hw _ (List.mem_of_getElem? (i := 34) rfl)) (hw _ (List.mem_of_getElem? (i := 35) rfl)) (hw _ (List.mem_of_getElem? (i := 37) rfl)) (hw _ (List.mem_of_getElem? (i := 36) rfl)) (hw _ (List.mem_of_getElem? (i := 37) rfl)) (by decide) (Q := fun v h' L => v = some (.int (Int32.ofNat (cs : List Int32).length)) ∧ L = [] ∧ h' = h0) (kc := 0) (ks := 0) (h := h0) (W := 1) (b := x) (argsL := []) (rest := [(.int (Int32.ofNat i))]) (StrChars.Road.lenW (s := s) (R := ({ frames := 6, cells := 12, slots := 120, locals := 113 } : Room)) (W := 1) hZ (own_wl hw) (kI := 4) (hw _ (List.mem_of_getElem? (i := 9) rfl)) (cs := cs) E V Cd K (StrChars.Road.codOf (n := (cs : List Int32).length) rfl (fun c hc => (hB c hc).rng.2)) (fun c hc => (hB c hc).rng2) (SC.ext O0.2) hz (by omega) (by decide) (by decide)) E c101 (lenOf pd_9 rfl) rfl (hb hby d6_6) e0
    have N102 := Fr.app N0 (Fr.nil _)
    have c102 : Steps p.tables e below S0 (T102.setTop (mkF m 9 #[.val (.ref x), .val .null, .val (.int (Int32.ofNat i)), z3] [(.int (Int32.ofNat (cs : List Int32).length)), (.int (Int32.ofNat i))])) := c102'
    have c103 : Steps p.tables e below S0 (T102.setTop (mkF m 76 #[.val (.ref x), .val .null, .val (.int (Int32.ofNat i)), z3] [])) := c102.trans (by
      refine XS.icmpYes X102.here hx rfl (pc0 := 9) (pc' := 76) rfl (hb hby d6_9) rfl (flt hge).2.1 (by decide) (by decide) ?_
      exact Steps.refl _)
    exact Or.inl ⟨T102, _, _, _, X102, N102, e102, by rw [← hall]; exact hno, c103⟩
  | succ k ih =>
    intro i z3 T0 locs hik hin hz3 hno X0 N0 e0 c0
    have hi : i < cs.length := by omega
    have hlt : Int32.ofNat i < Int32.ofNat cs.length := by rw [own_lt32 (by omega) (by omega)]; omega
    have hBc := own_at9B hB hi
    have hel := own_escT cs i (by omega)
    have c1 : Steps p.tables e below S0 (T0.setTop (mkF m 6 #[.val (.ref x), .val .null, .val (.int (Int32.ofNat i)), z3] [(.ref x), (.int (Int32.ofNat i))])) := c0.trans (by
      refine XS.iloadN X0.here hx rfl (hb hby d6_4) rfl ?_
      refine XS.aloadN X0.here hx rfl (hb hby d6_5) rfl rfl ?_
      exact Steps.refl _)
    obtain ⟨v2, T2, L2, X2, ⟨rfl, rfl, e2⟩, c2'⟩ := own_virt X0 hx hml hZ hown (hw _ (List.mem_of_getElem? (i := 34) rfl)) (hw _ (List.mem_of_getElem? (i := 35) rfl)) (hw _ (List.mem_of_getElem? (i := 37) rfl)) (hw _ (List.mem_of_getElem? (i := 36) rfl)) (hw _ (List.mem_of_getElem? (i := 37) rfl)) (by decide) (Q := fun v h' L => v = some (.int (Int32.ofNat (cs : List Int32).length)) ∧ L = [] ∧ h' = h0) (kc := 0) (ks := 0) (h := h0) (W := 1) (b := x) (argsL := []) (rest := [(.int (Int32.ofNat i))]) (StrChars.Road.lenW (s := s) (R := ({ frames := 6, cells := 12, slots := 120, locals := 113 } : Room)) (W := 1) hZ (own_wl hw) (kI := 4) (hw _ (List.mem_of_getElem? (i := 9) rfl)) (cs := cs) E V Cd K (StrChars.Road.codOf (n := (cs : List Int32).length) rfl (fun c hc => (hB c hc).rng.2)) (fun c hc => (hB c hc).rng2) (SC.ext O0.2) hz (by omega) (by decide) (by decide)) E c1 (lenOf pd_9 rfl) rfl (hb hby d6_6) e0
    have N2 := Fr.app N0 (Fr.nil _)
    have c2 : Steps p.tables e below S0 (T2.setTop (mkF m 9 #[.val (.ref x), .val .null, .val (.int (Int32.ofNat i)), z3] [(.int (Int32.ofNat (cs : List Int32).length)), (.int (Int32.ofNat i))])) := c2'
    have c3 : Steps p.tables e below S0 (T2.setTop (mkF m 14 #[.val (.ref x), .val .null, .val (.int (Int32.ofNat i)), z3] [(.int (Int32.ofNat i)), (.ref x)])) := c2.trans (by
      refine XS.icmpNo X2.here hx rfl (hb hby d6_9) rfl (tlt hlt).2.1 ?_
      refine XS.aloadN X2.here hx rfl (hb hby d6_12) rfl rfl ?_
      refine XS.iloadN X2.here hx rfl (hb hby d6_13) rfl ?_
      exact Steps.refl _)
    obtain ⟨v4, T4, L4, X4, ⟨rfl, rfl, e4⟩, c4'⟩ := own_virt X2 hx hml hZ hown (hw _ (List.mem_of_getElem? (i := 65) rfl)) (hw _ (List.mem_of_getElem? (i := 66) rfl)) (hw _ (List.mem_of_getElem? (i := 68) rfl)) (hw _ (List.mem_of_getElem? (i := 67) rfl)) (hw _ (List.mem_of_getElem? (i := 68) rfl)) (by decide) (Q := fun v h' L => v = some (.int (own_at9 cs i)) ∧ L = [] ∧ h' = h0) (kc := 0) (ks := 0) (h := h0) (W := 0) (b := x) (argsL := [(.int (Int32.ofNat i))]) (rest := []) (StrChars.Road.chN (s := s) (R := ({ frames := 6, cells := 12, slots := 120, locals := 113 } : Room)) (W := 0) hZ (own_wch hw) (kI := 4) (hw _ (List.mem_of_getElem? (i := 9) rfl)) (cs := cs) E V Cd K (StrChars.Road.codOf (n := (cs : List Int32).length) rfl (fun c hc => (hB c hc).rng.2)) (fun c hc => (hB c hc).rng2) (SC.ext O0.2) hz (SF.ext O0.2) hfm (by omega) (i := i) hi rfl (by decide) (by decide)) E c3 (lenOf pd_17 rfl) rfl (hb hby d6_14) e2
    have N4 := Fr.app N2 (Fr.nil _)
    have c4 : Steps p.tables e below S0 (T4.setTop (mkF m 17 #[.val (.ref x), .val .null, .val (.int (Int32.ofNat i)), z3] [(.int (own_at9 cs i))])) := c4'
    have c5 : Steps p.tables e below S0 (T4.setTop (mkF m 19 #[.val (.ref x), .val .null, .val (.int (Int32.ofNat i)), .val (.int (own_at9 cs i))] [(.int (own_at9 cs i))])) := c4.trans (by
      refine XS.istoreN X4.here hx rfl (hb hby d6_17) rfl (l' := #[.val (.ref x), .val .null, .val (.int (Int32.ofNat i)), .val (.int (own_at9 cs i))]) (by rw [XS.store1 (o := z3) rfl hz3 rfl]; rfl) ?_
      refine XS.iloadN X4.here hx rfl (hb hby d6_18) rfl ?_
      exact Steps.refl _)
    obtain ⟨v6, T6, L6, X6, ⟨N6', rfl, e6⟩, c6'⟩ := own_stat X4 hx hml hZ hown (hw _ (List.mem_of_getElem? (i := 87) rfl)) (hw _ (List.mem_of_getElem? (i := 88) rfl)) (hw _ (List.mem_of_getElem? (i := 32) rfl)) (hw _ (List.mem_of_getElem? (i := 89) rfl)) (by decide) (kc := 0) (ks := 0) (h := h0) (W := 0) (argsL := [(.int (own_at9 cs i))]) (rest := []) (own_pay (W := 0) (rmIsE l Z a0 hw (own_at9 cs i) h0 O0) hZ (hw _ (List.mem_of_getElem? (i := 89) rfl)) (hw _ (List.mem_of_getElem? (i := 32) rfl)) (by decide) (by decide)) c5 (lenOf pd_6 rfl) rfl (hb hby d6_19) e4
    have N6 := Fr.app N4 N6'
    have c6 : Steps p.tables e below S0 (T6.setTop (mkF m 22 #[.val (.ref x), .val .null, .val (.int (Int32.ofNat i)), .val (.int (own_at9 cs i))] [(.int (own_i (own_sp (own_at9 cs i))))])) := c6'
    by_cases hc7 : (own_i (own_sp (own_at9 cs i))) = (0 : Int32)
    · skip
      have c8 : Steps p.tables e below S0 (T6.setTop (mkF m 4 #[.val (.ref x), .val .null, .val (.int ((Int32.ofNat i) + (1 : Int32))), .val (.int (own_at9 cs i))] [])) := c6.trans (by
        refine XS.ifYes X6.here hx rfl (pc0 := 22) (pc' := 60) rfl (hb hby d6_22) rfl ((if0 _ _).trans (teq hc7).1) (by decide) (by decide) ?_
        refine XS.aloadN X6.here hx rfl (hb hby d6_60) rfl rfl ?_
        refine XS.ifnullYes X6.here hx rfl (pc0 := 61) (pc' := 70) rfl (hb hby d6_61) rfl (by decide) (by decide) ?_
        refine XS.iinc X6.here hx rfl (hb hby d6_70) rfl (l' := #[.val (.ref x), .val .null, .val (.int ((Int32.ofNat i) + (1 : Int32))), .val (.int (own_at9 cs i))]) rfl ?_
        refine XS.goto X6.here hx rfl (pc0 := 73) (pc' := 4) rfl (hb hby d6_73) (by decide) (by decide) ?_
        exact Steps.refl _)
      have sp9 : own_sp (own_at9 cs i) = false := (own_i0 _).mp hc7
      have cz10 : Steps p.tables e below S0 (T6.setTop (mkF m 4 #[.val (.ref x), .val .null, .val (.int (Int32.ofNat (i + 1))), .val (.int (own_at9 cs i))] [])) := by rw [← own_succ]; exact c8
      exact ih (i + 1) _ T6 _ (by omega) (by omega) (Or.inr ⟨_, rfl, rfl⟩) (by rw [← own_esc0 cs i hi sp9, hno, ← own_takeS cs i hi]) X6 N6 e6 cz10
    · skip
      obtain ⟨T12, h12, X12, e12, E12, A12, D12, -, st12⟩ := newO X6 hx hZ hown (hw _ (List.mem_of_getElem? (i := 90) rfl)) (hw _ (List.mem_of_getElem? (i := 91) rfl)) (hw _ (List.mem_of_getElem? (i := 92) rfl)) e6 (g := (mkF m 29 #[.val (.ref x), .val .null, .val (.int (Int32.ofNat i)), .val (.int (own_at9 cs i))] [])) rfl (hb hby d6_29) (by decide) (by decide)
      obtain ⟨b12, g12⟩ : ∃ z, z = h0.size := ⟨_, rfl⟩
      rw [← g12] at A12 D12 st12
      have lo12 : h0.size ≤ b12 := Nat.le_of_eq g12.symm
      have ge12 : Z.heap.size ≤ b12 := Nat.le_trans O0.2.1 lo12
      have F12_value : Fld Z h12 b12 "java/lang/AbstractStringBuilder" "value" "[B" .null := D12 (Or.inl (hw _ (List.mem_of_getElem? (i := 105) rfl))) (ty := (.array .byte)) (by decide)
      have F12_coder : Fld Z h12 b12 "java/lang/AbstractStringBuilder" "coder" "B" (.int (0 : Int32)) := D12 (Or.inl (hw _ (List.mem_of_getElem? (i := 107) rfl))) (ty := .byte) (by decide)
      have F12_count : Fld Z h12 b12 "java/lang/AbstractStringBuilder" "count" "I" (.int (0 : Int32)) := D12 (Or.inl (hw _ (List.mem_of_getElem? (i := 131) rfl))) (ty := .int) (by decide)
      have c13 : Steps p.tables e below S0 (T12.setTop (mkF m 34 #[.val (.ref x), .val .null, .val (.int (Int32.ofNat i)), .val (.int (own_at9 cs i))] [(.ref x), (.ref b12), (.ref b12)])) := c6.trans (by
        refine XS.ifNo X6.here hx rfl (hb hby d6_22) rfl ((if0 _ _).trans (feq hc7).1) ?_
        refine XS.aloadN X6.here hx rfl (hb hby d6_25) rfl rfl ?_
        refine XS.ifnonnullNo X6.here hx rfl (hb hby d6_26) rfl ?_
        refine st12 _ ?_
        show Steps p.tables e below (T12.setTop (mkF m 32 #[.val (.ref x), .val .null, .val (.int (Int32.ofNat i)), .val (.int (own_at9 cs i))] [(.ref b12)])) _
        refine XS.dup X12.here hx rfl (hb hby d6_32) rfl rfl ?_
        refine XS.aloadN X12.here hx rfl (hb hby d6_33) rfl rfl ?_
        exact Steps.refl _)
      obtain ⟨v14, T14, L14, X14, ⟨rfl, rfl, e14⟩, c14'⟩ := own_virt X12 hx hml hZ hown (hw _ (List.mem_of_getElem? (i := 34) rfl)) (hw _ (List.mem_of_getElem? (i := 35) rfl)) (hw _ (List.mem_of_getElem? (i := 37) rfl)) (hw _ (List.mem_of_getElem? (i := 36) rfl)) (hw _ (List.mem_of_getElem? (i := 37) rfl)) (by decide) (Q := fun v h' L => v = some (.int (Int32.ofNat (cs : List Int32).length)) ∧ L = [] ∧ h' = h12) (kc := 0) (ks := 0) (h := h12) (W := 2) (b := x) (argsL := []) (rest := [(.ref b12), (.ref b12)]) (StrChars.Road.lenW (s := s) (R := ({ frames := 6, cells := 12, slots := 120, locals := 113 } : Room)) (W := 2) hZ (own_wl hw) (kI := 4) (hw _ (List.mem_of_getElem? (i := 9) rfl)) (cs := cs) (E.ext E12) (V.ext E12) (Cd.ext E12) (K.ext E12) (StrChars.Road.codOf (n := (cs : List Int32).length) rfl (fun c hc => (hB c hc).rng.2)) (fun c hc => (hB c hc).rng2) (SC.ext (O0.ext E12).2) hz (by omega) (by decide) (by decide)) (E.ext E12) c13 (lenOf pd_9 rfl) rfl (hb hby d6_34) e12
      have N14 := Fr.app N6 (Fr.nil _)
      have c14 : Steps p.tables e below S0 (T14.setTop (mkF m 37 #[.val (.ref x), .val .null, .val (.int (Int32.ofNat i)), .val (.int (own_at9 cs i))] [(.int (Int32.ofNat (cs : List Int32).length)), (.ref b12), (.ref b12)])) := c14'
      have c15 : Steps p.tables e below S0 (T14.setTop (mkF m 39 #[.val (.ref x), .val .null, .val (.int (Int32.ofNat i)), .val (.int (own_at9 cs i))] [(.int ((Int32.ofNat (cs : List Int32).length) + (1 : Int32))), (.ref b12), (.ref b12)])) := c14.trans (by
        refine XS.iconst X14.here hx rfl (hb hby d6_37) ?_
        refine XS.iadd X14.here hx rfl (hb hby d6_38) rfl ?_
        exact Steps.refl _)
      have eq16 : ((Int32.ofNat (cs : List Int32).length) + (1 : Int32)) = (Int32.ofNat (cs.length + 1)) := own_succ _
      have c16 : Steps p.tables e below S0 (T14.setTop (mkF m 39 #[.val (.ref x), .val .null, .val (.int (Int32.ofNat i)), .val (.int (own_at9 cs i))] [(.int (Int32.ofNat (cs.length + 1))), (.ref b12), (.ref b12)])) := by have q := c15; rw [eq16] at q; exact q
      obtain ⟨v17, T17, L17, X17, ⟨N17', rfl, t17, kb17, SB17, K17, lo17⟩, c17'⟩ := own_spec X14 hx hml hZ hown rfl (hw _ (List.mem_of_getElem? (i := 93) rfl)) (hw _ (List.mem_of_getElem? (i := 94) rfl)) (hw _ (List.mem_of_getElem? (i := 95) rfl)) (by decide) (kc := 1) (ks := 5) (h := h12) (W := 1) (b := b12) (argsL := [(.int (Int32.ofNat (cs.length + 1)))]) (rest := [(.ref b12)]) (own_pay (W := 1) (rmSI l Z a0 hw b12 (cs.length + 1) _ _ z fm h12 (O0.ext E12) A12 F12_count F12_coder F12_value ge12 (by omega) SC hz SF hfm) hZ (hw _ (List.mem_of_getElem? (i := 95) rfl)) (hw _ (List.mem_of_getElem? (i := 92) rfl)) (by decide) (by decide)) c16 (lenOf pd_4 rfl) rfl (hb hby d6_39) e14
      have N17 := Fr.app N14 N17'
      have c17 : Steps p.tables e below S0 (T17.setTop (mkF m 42 #[.val (.ref x), .val .null, .val (.int (Int32.ofNat i)), .val (.int (own_at9 cs i))] [(.ref b12)])) := c17'
      have KG17 : Keep h0 T17.heap [] := (((Keep.refl h0 []).ext E12).trans K17 (allS (Or.inr (Nat.le_trans (Keep.refl h0 []).1 lo12)) all0))
      have bg17 : h0.size ≤ b12 := (Nat.le_trans (Keep.refl h0 []).1 lo12)
      have tg17 : h0.size ≤ t17 := (Nat.le_trans ((Keep.refl h0 []).ext E12).1 lo17)
      obtain ⟨Eb17, Fc17, Fo17, Fv17, Vt17, Et17, hle17, hL417, hbt17, gb17, gt17⟩ := id SB17
      have c18 : Steps p.tables e below S0 (T17.setTop (mkF m 45 #[.val (.ref x), .val .null, .val (.int (Int32.ofNat i)), .val (.int (own_at9 cs i))] [(.int (Int32.ofNat i)), (.int (0 : Int32)), (.ref x), (.ref b12)])) := c17.trans (by
        refine XS.aloadN X17.here hx rfl (hb hby d6_42) rfl rfl ?_
        refine XS.iconst X17.here hx rfl (hb hby d6_43) ?_
        refine XS.iloadN X17.here hx rfl (hb hby d6_44) rfl ?_
        exact Steps.refl _)
      obtain ⟨v19, T19, L19, X19, ⟨N19', rfl, SB19, K19⟩, c19'⟩ := own_virt X17 hx hml hZ hown (hw _ (List.mem_of_getElem? (i := 108) rfl)) (hw _ (List.mem_of_getElem? (i := 109) rfl)) (hw _ (List.mem_of_getElem? (i := 111) rfl)) (hw _ (List.mem_of_getElem? (i := 110) rfl)) (hw _ (List.mem_of_getElem? (i := 111) rfl)) (by decide) (kc := 0) (ks := 0) (h := T17.heap) (W := 0) (b := b12) (argsL := [(.ref x), (.int (0 : Int32)), (.int (Int32.ofNat i))]) (rest := []) (own_pay (W := 0) (rmSCS l Z a0 hw b12 t17 kb17 (cs.length + 1) [] cs x u ku i z fm fo T17.heap ((O0.ext E12).keep K17 (allS gb17 all0)) SB17 (E.keep KG17) (V.keep KG17 nin0) (Cd.keep KG17 nin0) (K.keep KG17 nin0) (Nat.ne_of_lt (Nat.lt_of_lt_of_le E.lt lo12)) (Nat.ne_of_lt (Nat.lt_of_lt_of_le (Nat.lt_of_lt_of_le E.lt E12.1) lo17)) (Nat.ne_of_lt (Nat.lt_of_lt_of_le K.lt lo12)) (Nat.ne_of_lt (Nat.lt_of_lt_of_le (Nat.lt_of_lt_of_le K.lt E12.1) lo17)) (by omega) (by omega) (by simp; omega) SC hz SF hfm hB SI hfo) hZ (hw _ (List.mem_of_getElem? (i := 112) rfl)) (hw _ (List.mem_of_getElem? (i := 92) rfl)) (by decide) (by decide)) Eb17 c18 (lenOf pd_19 rfl) rfl (hb hby d6_45) rfl
      have N19 := Fr.app N17 N19'
      have c19 : Steps p.tables e below S0 (T19.setTop (mkF m 48 #[.val (.ref x), .val .null, .val (.int (Int32.ofNat i)), .val (.int (own_at9 cs i))] [(.ref b12)])) := c19'
      have KG19 := own_kp KG17 K19 bg17 tg17
      have ln19 : ([] ++ cs.take i).length = i := by simp; omega
      obtain ⟨Eb19, Fc19, Fo19, Fv19, Vt19, Et19, hle19, hL419, hbt19, gb19, gt19⟩ := id SB19
      have c20 : Steps p.tables e below S0 (T19.setTop (mkF m 56 #[.val (.ref x), .val (.ref b12), .val (.int (Int32.ofNat i)), .val (.int (own_at9 cs i))] [(.int (92 : Int32)), (.ref b12)])) := c19.trans (by
        refine XS.goto X19.here hx rfl (pc0 := 48) (pc' := 52) rfl (hb hby d6_48) (by decide) (by decide) ?_
        refine XS.astoreN X19.here hx rfl (hb hby d6_52) rfl rfl (l' := #[.val (.ref x), .val (.ref b12), .val (.int (Int32.ofNat i)), .val (.int (own_at9 cs i))]) rfl ?_
        refine XS.aloadN X19.here hx rfl (hb hby d6_53) rfl rfl ?_
        refine XS.bipush X19.here hx rfl (hb hby d6_54) ?_
        exact Steps.refl _)
      obtain ⟨v21, T21, L21, X21, ⟨N21', rfl, t21, kb21, M21, SB21, K21, ht21, hM21⟩, c21'⟩ := own_virt X19 hx hml hZ hown (hw _ (List.mem_of_getElem? (i := 158) rfl)) (hw _ (List.mem_of_getElem? (i := 159) rfl)) (hw _ (List.mem_of_getElem? (i := 161) rfl)) (hw _ (List.mem_of_getElem? (i := 160) rfl)) (hw _ (List.mem_of_getElem? (i := 161) rfl)) (by decide) (kc := 1) (ks := 12) (h := T19.heap) (W := 0) (b := b12) (argsL := [(.int (92 : Int32))]) (rest := []) (own_pay (W := 0) (rmSC l Z a0 hw b12 t17 kb17 (cs.length + 1) ([] ++ cs.take i) (92 : Int32) z fm T19.heap (((O0.ext E12).keep K17 (allS gb19 all0)).keep K19 (allS gb19 (allS gt19 all0))) SB19 (own_Bl 92 (by decide)) (by omega) SC hz SF hfm) hZ (hw _ (List.mem_of_getElem? (i := 162) rfl)) (hw _ (List.mem_of_getElem? (i := 92) rfl)) (by decide) (by decide)) Eb19 c20 (lenOf pd_18 rfl) rfl (hb hby d6_56) rfl
      have N21 := Fr.app N19 N21'
      have c21 : Steps p.tables e below S0 (T21.setTop (mkF m 59 #[.val (.ref x), .val (.ref b12), .val (.int (Int32.ofNat i)), .val (.int (own_at9 cs i))] [(.ref b12)])) := c21'
      have KG21 := own_kp KG19 K21 bg17 tg17
      have tg21 := own_tp KG19 tg17 ht21
      have ln21 : (([] ++ cs.take i) ++ [(92 : Int32)]).length = ([] ++ cs.take i).length + 1 := by simp
      obtain ⟨Eb21, Fc21, Fo21, Fv21, Vt21, Et21, hle21, hL421, hbt21, gb21, gt21⟩ := id SB21
      have c22 : Steps p.tables e below S0 (T21.setTop (mkF m 66 #[.val (.ref x), .val (.ref b12), .val (.int (Int32.ofNat i)), .val (.int (own_at9 cs i))] [(.int (own_at9 cs i)), (.ref b12)])) := c21.trans (by
        refine XS.pop X21.here hx rfl (hb hby d6_59) rfl rfl ?_
        refine XS.aloadN X21.here hx rfl (hb hby d6_60) rfl rfl ?_
        refine XS.ifnullNo X21.here hx rfl (hb hby d6_61) rfl ?_
        refine XS.aloadN X21.here hx rfl (hb hby d6_64) rfl rfl ?_
        refine XS.iloadN X21.here hx rfl (hb hby d6_65) rfl ?_
        exact Steps.refl _)
      obtain ⟨v23, T23, L23, X23, ⟨N23', rfl, t23, kb23, M23, SB23, K23, ht23, hM23⟩, c23'⟩ := own_virt X21 hx hml hZ hown (hw _ (List.mem_of_getElem? (i := 158) rfl)) (hw _ (List.mem_of_getElem? (i := 159) rfl)) (hw _ (List.mem_of_getElem? (i := 161) rfl)) (hw _ (List.mem_of_getElem? (i := 160) rfl)) (hw _ (List.mem_of_getElem? (i := 161) rfl)) (by decide) (kc := 1) (ks := 12) (h := T21.heap) (W := 0) (b := b12) (argsL := [(.int (own_at9 cs i))]) (rest := []) (own_pay (W := 0) (rmSC l Z a0 hw b12 t21 kb21 M21 (([] ++ cs.take i) ++ [(92 : Int32)]) (own_at9 cs i) z fm T21.heap ((((O0.ext E12).keep K17 (allS gb21 all0)).keep K19 (allS gb21 (allS gt19 all0))).keep K21 (allS gb21 (allS gt19 all0))) SB21 hBc (by omega) SC hz SF hfm) hZ (hw _ (List.mem_of_getElem? (i := 162) rfl)) (hw _ (List.mem_of_getElem? (i := 92) rfl)) (by decide) (by decide)) Eb21 c22 (lenOf pd_18 rfl) rfl (hb hby d6_66) rfl
      have N23 := Fr.app N21 N23'
      have c23 : Steps p.tables e below S0 (T23.setTop (mkF m 69 #[.val (.ref x), .val (.ref b12), .val (.int (Int32.ofNat i)), .val (.int (own_at9 cs i))] [(.ref b12)])) := c23'
      have KG23 := own_kp KG21 K23 bg17 tg21
      have tg23 := own_tp KG21 tg21 ht23
      have ln23 : ((([] ++ cs.take i) ++ [(92 : Int32)]) ++ [(own_at9 cs i)]).length = (([] ++ cs.take i) ++ [(92 : Int32)]).length + 1 := by simp
      obtain ⟨Eb23, Fc23, Fo23, Fv23, Vt23, Et23, hle23, hL423, hbt23, gb23, gt23⟩ := id SB23
      have c24 : Steps p.tables e below S0 (T23.setTop (mkF m 4 #[.val (.ref x), .val (.ref b12), .val (.int ((Int32.ofNat i) + (1 : Int32))), .val (.int (own_at9 cs i))] [])) := c23.trans (by
        refine XS.pop X23.here hx rfl (hb hby d6_69) rfl rfl ?_
        refine XS.iinc X23.here hx rfl (hb hby d6_70) rfl (l' := #[.val (.ref x), .val (.ref b12), .val (.int ((Int32.ofNat i) + (1 : Int32))), .val (.int (own_at9 cs i))]) rfl ?_
        refine XS.goto X23.here hx rfl (pc0 := 73) (pc' := 4) rfl (hb hby d6_73) (by decide) (by decide) ?_
        exact Steps.refl _)
      have sp25 : own_sp (own_at9 cs i) = true := by cases q : own_sp (own_at9 cs i) with | true => rfl | false => exact absurd (own_iF q) hc7
      have SZ26 : own_SB Z T23.heap b12 t23 kb23 M23 (own_esc (cs.take (i + 1))) := by rw [← own_esc1 cs i hi sp25, hno]; exact SB23
      have cz27 : Steps p.tables e below S0 (T23.setTop (mkF m 4 #[.val (.ref x), .val (.ref b12), .val (.int (Int32.ofNat (i + 1))), .val (.int (own_at9 cs i))] [])) := by rw [← own_succ]; exact c24
      exact Or.inr ⟨b12, bg17, own_escG cs i hi sp25, loopB hw cs x u ku z fm fo h0 O0 E V Cd K hn4 hB SC hz SF hfm SI hfo hx hZ hby hml hown k  (i + 1) _ T23 _ _ _ _ b12 t23 kb23 M23 (by omega) (by omega) (Or.inr ⟨_, rfl, rfl⟩) X23 N23 rfl (((((O0.ext E12).keep K17 (allS gb23 all0)).keep K19 (allS gb23 (allS gt19 all0))).keep K21 (allS gb23 (allS gt19 all0))).keep K23 (allS gb23 (allS gt21 all0))) KG23 bg17 tg23 SZ26 (by omega) (by omega) (by omega) cz27⟩
set_option maxRecDepth 65536 in
set_option maxHeartbeats 40000000 in
theorem rmEsc (l : Launch) (Z : State) (a0 : Array Value) (hw : ∀ d ∈ tables_1, d.before a0 Z = true) (cs : List Int32) (x u : Addr) (ku : ClassId) (z : Int32) (fm fo : Value) (h0 : Heap) (O0 : Old Z Z.heap.size h0) (E : Exa Z h0 x "java/lang/String") (V : Fld Z h0 x "java/lang/String" "value" "[B" (.ref u)) (Cd : Fld Z h0 x "java/lang/String" "coder" "B" (.int (0 : Int32))) (K : Arv Z h0 u ku .byte (Int32.ofNat (cs : List Int32).length) (((cs : List Int32).map (fun c : Int32 => c.toInt8.toInt32)).map Value.int) (.int (0 : Int32))) (hn4 : cs.length ≤ 4) (hB : ∀ c ∈ cs, own_B c) (SC : Sta Z Z.heap "java/lang/String" "COMPACT_STRINGS" "Z" (.int z)) (hz : ¬ z = 0) (SF : Sta Z Z.heap "jdk/internal/util/Preconditions" "SIOOBE_FORMATTER" "Ljava/util/function/BiFunction;" fm) (hfm : fm.isRef = true) (SI : Sta Z Z.heap "jdk/internal/util/Preconditions" "IOOBE_FORMATTER" "Ljava/util/function/BiFunction;" fo) (hfo : fo.isRef = true) :
    own_NC l Z (⟨"com/example/attestor/attestor/interpolation/MessageTemplate", "escape", "(Ljava/lang/String;)Ljava/lang/String;"⟩ : MethodName) prog_7_method_5_code 4 (some (.object "java/lang/String")) ({ frames := 6, cells := 12, slots := 120, locals := 113 } : Room) #[(.ref x)] h0 (fun v h => ∃ (r t2 : Addr) (kb2 : ClassId), v = some (.ref r) ∧ Keep h0 h [] ∧ Exa Z h r "java/lang/String" ∧ Fld Z h r "java/lang/String" "value" "[B" (.ref t2) ∧ Fld Z h r "java/lang/String" "coder" "B" (.int (0 : Int32)) ∧ Arv Z h t2 kb2 .byte (Int32.ofNat ((own_esc cs) : List Int32).length) ((((own_esc cs) : List Int32).map (fun c : Int32 => c.toInt8.toInt32)).map Value.int) (.int (0 : Int32)) ∧ ((r = x ∧ own_esc cs = cs) ∨ cs.length < (own_esc cs).length)) := by
  refine own_nc (plainFor_of_name (by first | (simp [plainName, overriddenIn]; done) | decide +kernel)) ?_
  intro p e s m below meth c s₁ S0 X0 hx hby hml hret hnm hown hZ e0 cc
  have N0 := Fr.nil Z.heap.size
  have c0 : Steps p.tables e below S0 (s₁.setTop (mkF m 0 #[.val (.ref x), .unset, .unset, .unset] [])) := cc.trans (XT.entry rfl)
  have c1 : Steps p.tables e below S0 (s₁.setTop (mkF m 4 #[.val (.ref x), .val .null, .val (.int (0 : Int32)), .unset] [])) := c0.trans (by
    refine XS.aconstNull X0.here hx rfl (hb hby d6_0) ?_
    refine XS.astoreN X0.here hx rfl (hb hby d6_1) rfl rfl (l' := #[.val (.ref x), .val .null, .unset, .unset]) rfl ?_
    refine XS.iconst X0.here hx rfl (hb hby d6_2) ?_
    refine XS.istoreN X0.here hx rfl (hb hby d6_3) rfl (l' := #[.val (.ref x), .val .null, .val (.int (0 : Int32)), .unset]) rfl ?_
    exact Steps.refl _)
  rcases loopA hw cs x u ku z fm fo h0 O0 E V Cd K hn4 hB SC hz SF hfm SI hfo hx hZ hby hml hown cs.length 0 .unset s₁ [] (by omega) (Nat.zero_le _) (Or.inl rfl) (by simp [own_esc]) X0 N0 e0 c1 with ⟨T2, lo2, a2, z2, X2, N2, e2, hes2, c2⟩ | ⟨b2, gb2, hgt2, T2, lo2, h2, t2, kb2, M2, a2, z2, X2, N2, e2, Oh2, KG2, tg2, SB2, c2⟩
  · skip
    have c3 : Steps p.tables e below S0 (T2.setTop (mkF m 88 #[.val (.ref x), .val .null, .val (.int a2), z2] [(.ref x)])) := c2.trans (by
      refine XS.aloadN X2.here hx rfl (hb hby d6_76) rfl rfl ?_
      refine XS.ifnonnullNo X2.here hx rfl (hb hby d6_77) rfl ?_
      refine XS.aloadN X2.here hx rfl (hb hby d6_80) rfl rfl ?_
      refine XS.goto X2.here hx rfl (pc0 := 81) (pc' := 88) rfl (hb hby d6_81) (by decide) (by decide) ?_
      exact Steps.refl _)
    refine ⟨T2, (some (.ref x)), _, _, _, X2, by decide, by decide, (fun q => by cases q), N2, ?_, fun fs hr => ?_⟩
    · rw [e2]
      exact ⟨x, u, ku, rfl, Keep.refl h0 [], E, V, Cd, by rw [hes2]; exact K, Or.inl ⟨rfl, hes2⟩⟩
    · exact own_retR X2 hx c3 hret rfl rfl (hb hby d6_88) hr
  · skip
    obtain ⟨Eb2, Fc2, Fo2, Fv2, Vt2, Et2, hle2, hL42, hbt2, gb2, gt2⟩ := id SB2
    have c5 : Steps p.tables e below S0 (T2.setTop (mkF m 85 #[.val (.ref x), .val (.ref b2), .val (.int a2), z2] [(.ref b2)])) := c2.trans (by
      refine XS.aloadN X2.here hx rfl (hb hby d6_76) rfl rfl ?_
      refine XS.ifnonnullYes X2.here hx rfl (pc0 := 77) (pc' := 84) rfl (hb hby d6_77) rfl (by decide) (by decide) ?_
      refine XS.aloadN X2.here hx rfl (hb hby d6_84) rfl rfl ?_
      exact Steps.refl _)
    obtain ⟨v6, T6, L6, X6, ⟨N6', x6, t6, kb6, rfl, K6, lo6, E6, V6, Cd6, Kb6⟩, c6'⟩ := own_virt X2 hx hml hZ hown (hw _ (List.mem_of_getElem? (i := 170) rfl)) (hw _ (List.mem_of_getElem? (i := 171) rfl)) (hw _ (List.mem_of_getElem? (i := 173) rfl)) (hw _ (List.mem_of_getElem? (i := 172) rfl)) (hw _ (List.mem_of_getElem? (i := 173) rfl)) (by decide) (kc := 2) (ks := 12) (h := h2) (W := 0) (b := b2) (argsL := []) (rest := []) (own_pay (W := 0) (rmTS l Z a0 hw b2 t2 kb2 M2 (own_esc cs) z fm h2 Oh2 SB2 (Nat.le_trans (own_escL cs) (by omega)) SC hz SF hfm) hZ (hw _ (List.mem_of_getElem? (i := 174) rfl)) (hw _ (List.mem_of_getElem? (i := 92) rfl)) (by decide) (by decide)) Eb2 c5 (lenOf pd_20 rfl) rfl (hb hby d6_85) e2
    have N6 := Fr.app N2 N6'
    have c6 : Steps p.tables e below S0 (T6.setTop (mkF m 88 #[.val (.ref x), .val (.ref b2), .val (.int a2), z2] [(.ref x6)])) := c6'
    refine ⟨T6, (some (.ref x6)), _, _, _, X6, by decide, by decide, (fun q => by cases q), N6, ?_, fun fs hr => ?_⟩
    · skip
      exact ⟨x6, t6, kb6, rfl, (((Keep.refl h0 []).trans KG2 all0).trans K6 all0), E6, V6, Cd6, Kb6, Or.inr hgt2⟩
    · exact own_retR X6 hx c6 hret rfl rfl (hb hby d6_88) hr
set_option maxRecDepth 65536 in
set_option maxHeartbeats 40000000 in
theorem rmDraw (l : Launch) (Z : State) (a0 : Array Value) (hw : ∀ d ∈ tables_1, d.before a0 Z = true) (p0 : Int32) (h0 : Heap) (O0 : Old Z Z.heap.size h0)  :
    own_NC l Z (⟨"com/example/attestor/attestor/interpolation/MessageTemplateEscapePinLaw", "draw", "(I)C"⟩ : MethodName) method_2_code 2 (some .char) ({ frames := 0, cells := 0, slots := 0, locals := 0 } : Room) #[(.int p0)] h0 (fun v h => ∃ k : Int32, own_B k ∧ v = some (.int k) ∧ h = h0) := by
  refine own_nc (plainFor_of_name (by first | (simp [plainName, overriddenIn]; done) | decide +kernel)) ?_
  intro p e s m below meth c s₁ S0 X0 hx hby hml hret hnm hown hZ e0 cc
  have N0 := Fr.nil Z.heap.size
  have c0 : Steps p.tables e below S0 (s₁.setTop (mkF m 0 #[.val (.int p0), .unset] [])) := cc.trans (XT.entry rfl)
  have c1 : Steps p.tables e below S0 (s₁.setTop (mkF m 6 #[.val (.int p0), .val (.int (p0 &&& (7 : Int32)))] [(.int (p0 &&& (7 : Int32)))])) := c0.trans (by
    refine XS.iloadN X0.here hx rfl (hb hby d1_0) rfl ?_
    refine XS.bipush X0.here hx rfl (hb hby d1_1) ?_
    refine XS.iand X0.here hx rfl (hb hby d1_3) rfl ?_
    refine XS.istoreN X0.here hx rfl (hb hby d1_4) rfl (l' := #[.val (.int p0), .val (.int (p0 &&& (7 : Int32)))]) rfl ?_
    refine XS.iloadN X0.here hx rfl (hb hby d1_5) rfl ?_
    exact Steps.refl _)
  by_cases hc2 : (p0 &&& (7 : Int32)) = (0 : Int32)
  · skip
    have c3 : Steps p.tables e below S0 (s₁.setTop (mkF m 11 #[.val (.int p0), .val (.int (p0 &&& (7 : Int32)))] [(.int (123 : Int32))])) := c1.trans (by
      refine XS.ifNo X0.here hx rfl (hb hby d1_6) rfl ((if0 _ _).trans (teq hc2).2) ?_
      refine XS.bipush X0.here hx rfl (hb hby d1_9) ?_
      exact Steps.refl _)
    refine ⟨s₁, (some (.int (123 : Int32))), _, _, _, X0, by decide, by decide, (fun q => by cases q), N0, ?_, fun fs hr => ?_⟩
    · rw [e0]
      exact ⟨_, own_Bl 123 (by decide), rfl, rfl⟩
    · exact c3.trans (retN X0 hx (t := .char) hret (by simp) (hb hby d1_11) hr)
  · skip
    have c5 : Steps p.tables e below S0 (s₁.setTop (mkF m 14 #[.val (.int p0), .val (.int (p0 &&& (7 : Int32)))] [(.int (1 : Int32)), (.int (p0 &&& (7 : Int32)))])) := c1.trans (by
      refine XS.ifYes X0.here hx rfl (pc0 := 6) (pc' := 12) rfl (hb hby d1_6) rfl ((if0 _ _).trans (feq hc2).2) (by decide) (by decide) ?_
      refine XS.iloadN X0.here hx rfl (hb hby d1_12) rfl ?_
      refine XS.iconst X0.here hx rfl (hb hby d1_13) ?_
      exact Steps.refl _)
    by_cases hc6 : (p0 &&& (7 : Int32)) = (1 : Int32)
    · skip
      have c7 : Steps p.tables e below S0 (s₁.setTop (mkF m 19 #[.val (.int p0), .val (.int (p0 &&& (7 : Int32)))] [(.int (125 : Int32))])) := c5.trans (by
        refine XS.icmpNo X0.here hx rfl (hb hby d1_14) rfl (teq hc6).2 ?_
        refine XS.bipush X0.here hx rfl (hb hby d1_17) ?_
        exact Steps.refl _)
      refine ⟨s₁, (some (.int (125 : Int32))), _, _, _, X0, by decide, by decide, (fun q => by cases q), N0, ?_, fun fs hr => ?_⟩
      · rw [e0]
        exact ⟨_, own_Bl 125 (by decide), rfl, rfl⟩
      · exact c7.trans (retN X0 hx (t := .char) hret (by simp) (hb hby d1_19) hr)
    · skip
      have c9 : Steps p.tables e below S0 (s₁.setTop (mkF m 22 #[.val (.int p0), .val (.int (p0 &&& (7 : Int32)))] [(.int (2 : Int32)), (.int (p0 &&& (7 : Int32)))])) := c5.trans (by
        refine XS.icmpYes X0.here hx rfl (pc0 := 14) (pc' := 20) rfl (hb hby d1_14) rfl (feq hc6).2 (by decide) (by decide) ?_
        refine XS.iloadN X0.here hx rfl (hb hby d1_20) rfl ?_
        refine XS.iconst X0.here hx rfl (hb hby d1_21) ?_
        exact Steps.refl _)
      by_cases hc10 : (p0 &&& (7 : Int32)) = (2 : Int32)
      · skip
        have c11 : Steps p.tables e below S0 (s₁.setTop (mkF m 27 #[.val (.int p0), .val (.int (p0 &&& (7 : Int32)))] [(.int (36 : Int32))])) := c9.trans (by
          refine XS.icmpNo X0.here hx rfl (hb hby d1_22) rfl (teq hc10).2 ?_
          refine XS.bipush X0.here hx rfl (hb hby d1_25) ?_
          exact Steps.refl _)
        refine ⟨s₁, (some (.int (36 : Int32))), _, _, _, X0, by decide, by decide, (fun q => by cases q), N0, ?_, fun fs hr => ?_⟩
        · rw [e0]
          exact ⟨_, own_Bl 36 (by decide), rfl, rfl⟩
        · exact c11.trans (retN X0 hx (t := .char) hret (by simp) (hb hby d1_27) hr)
      · skip
        have c13 : Steps p.tables e below S0 (s₁.setTop (mkF m 30 #[.val (.int p0), .val (.int (p0 &&& (7 : Int32)))] [(.int (3 : Int32)), (.int (p0 &&& (7 : Int32)))])) := c9.trans (by
          refine XS.icmpYes X0.here hx rfl (pc0 := 22) (pc' := 28) rfl (hb hby d1_22) rfl (feq hc10).2 (by decide) (by decide) ?_
          refine XS.iloadN X0.here hx rfl (hb hby d1_28) rfl ?_
          refine XS.iconst X0.here hx rfl (hb hby d1_29) ?_
          exact Steps.refl _)
        by_cases hc14 : (p0 &&& (7 : Int32)) = (3 : Int32)
        · skip
          have c15 : Steps p.tables e below S0 (s₁.setTop (mkF m 35 #[.val (.int p0), .val (.int (p0 &&& (7 : Int32)))] [(.int (92 : Int32))])) := c13.trans (by
            refine XS.icmpNo X0.here hx rfl (hb hby d1_30) rfl (teq hc14).2 ?_
            refine XS.bipush X0.here hx rfl (hb hby d1_33) ?_
            exact Steps.refl _)
          refine ⟨s₁, (some (.int (92 : Int32))), _, _, _, X0, by decide, by decide, (fun q => by cases q), N0, ?_, fun fs hr => ?_⟩
          · rw [e0]
            exact ⟨_, own_Bl 92 (by decide), rfl, rfl⟩
          · exact c15.trans (retN X0 hx (t := .char) hret (by simp) (hb hby d1_35) hr)
        · skip
          have c17 : Steps p.tables e below S0 (s₁.setTop (mkF m 44 #[.val (.int p0), .val (.int (p0 &&& (7 : Int32)))] [(.int ((((p0.toUInt32 >>> ((3 : Int32) &&& 31).toUInt32).toInt32) &&& (255 : Int32)).toUInt32.toUInt16.toUInt32.toInt32))])) := c13.trans (by
            refine XS.icmpYes X0.here hx rfl (pc0 := 30) (pc' := 36) rfl (hb hby d1_30) rfl (feq hc14).2 (by decide) (by decide) ?_
            refine XS.iloadN X0.here hx rfl (hb hby d1_36) rfl ?_
            refine XS.iconst X0.here hx rfl (hb hby d1_37) ?_
            refine XS.iushr X0.here hx rfl (hb hby d1_38) rfl ?_
            refine XS.sipush X0.here hx rfl (hb hby d1_39) ?_
            refine XS.iand X0.here hx rfl (hb hby d1_42) rfl ?_
            refine XS.i2c X0.here hx rfl (hb hby d1_43) rfl ?_
            exact Steps.refl _)
          refine ⟨s₁, (some (.int (nar .char ((((p0.toUInt32 >>> ((3 : Int32) &&& 31).toUInt32).toInt32) &&& (255 : Int32)).toUInt32.toUInt16.toUInt32.toInt32)))), _, _, _, X0, by decide, by decide, (fun q => by cases q), N0, ?_, fun fs hr => ?_⟩
          · rw [e0]
            exact ⟨_, own_drB _, rfl, rfl⟩
          · exact c17.trans (retN X0 hx (t := .char) hret (by simp) (hb hby d1_44) hr)
set_option maxRecDepth 65536 in
set_option maxHeartbeats 40000000 in
theorem rmPut (l : Launch) (Z : State) (a0 : Array Value) (hw : ∀ d ∈ tables_1, d.before a0 Z = true) (os : List Int32) (a : Addr) (ka : ClassId) (k : Int32) (h0 : Heap) (O0 : Old Z Z.heap.size h0) (Ka : Arv Z h0 a ka .char (8 : Int32) (os.map Value.int) (.int (0 : Int32))) (hk : own_B k) (hl : os.length + 2 ≤ 8) (ga : Z.heap.size ≤ a) :
    own_NC l Z (⟨"com/example/attestor/attestor/interpolation/MessageTemplateEscapePinLaw", "put", "([CIC)I"⟩ : MethodName) method_4_code 4 (some .int) ({ frames := 1, cells := 0, slots := 0, locals := 12 } : Room) #[(.ref a), (.int (Int32.ofNat os.length)), (.int k)] h0 (fun v h => v = some (.int (Int32.ofNat (os ++ own_e1 k).length)) ∧ Keep h0 h [a] ∧ Arv Z h a ka .char (8 : Int32) ((os ++ own_e1 k).map Value.int) (.int (0 : Int32))) := by
  refine own_nc (plainFor_of_name (by first | (simp [plainName, overriddenIn]; done) | decide +kernel)) ?_
  intro p e s m below meth c s₁ S0 X0 hx hby hml hret hnm hown hZ e0 cc
  have N0 := Fr.nil Z.heap.size
  have c0 : Steps p.tables e below S0 (s₁.setTop (mkF m 0 #[.val (.ref a), .val (.int (Int32.ofNat os.length)), .val (.int k), .unset] [])) := cc.trans (XT.entry rfl)
  have c1 : Steps p.tables e below S0 (s₁.setTop (mkF m 3 #[.val (.ref a), .val (.int (Int32.ofNat os.length)), .val (.int k), .val (.int (Int32.ofNat os.length))] [(.int k)])) := c0.trans (by
    refine XS.iloadN X0.here hx rfl (hb hby d13_0) rfl ?_
    refine XS.istoreN X0.here hx rfl (hb hby d13_1) rfl (l' := #[.val (.ref a), .val (.int (Int32.ofNat os.length)), .val (.int k), .val (.int (Int32.ofNat os.length))]) rfl ?_
    refine XS.iloadN X0.here hx rfl (hb hby d13_2) rfl ?_
    exact Steps.refl _)
  obtain ⟨v2, T2, L2, X2, ⟨N2', rfl, e2⟩, c2'⟩ := own_stat X0 hx hml hZ hown (hw _ (List.mem_of_getElem? (i := 62) rfl)) (hw _ (List.mem_of_getElem? (i := 63) rfl)) (hw _ (List.mem_of_getElem? (i := 3) rfl)) (hw _ (List.mem_of_getElem? (i := 64) rfl)) (by decide) (kc := 0) (ks := 0) (h := h0) (W := 0) (argsL := [(.int k)]) (rest := []) (own_pay (W := 0) (rmSpc l Z a0 hw k h0 O0) hZ (hw _ (List.mem_of_getElem? (i := 64) rfl)) (hw _ (List.mem_of_getElem? (i := 3) rfl)) (by decide) (by decide)) c1 (lenOf pd_6 rfl) rfl (hb hby d13_3) e0
  have N2 := Fr.app N0 N2'
  have c2 : Steps p.tables e below S0 (T2.setTop (mkF m 6 #[.val (.ref a), .val (.int (Int32.ofNat os.length)), .val (.int k), .val (.int (Int32.ofNat os.length))] [(.int (own_i (own_sp k)))])) := c2'
  by_cases hc3 : (own_i (own_sp k)) = (0 : Int32)
  · skip
    have c4 : Steps p.tables e below S0 (T2.setTop (mkF m 21 #[.val (.ref a), .val (.int (Int32.ofNat os.length)), .val (.int k), .val (.int (Int32.ofNat os.length))] [(.int k), (.int (Int32.ofNat os.length)), (.ref a)])) := c2.trans (by
      refine XS.ifYes X2.here hx rfl (pc0 := 6) (pc' := 18) rfl (hb hby d13_6) rfl ((if0 _ _).trans (teq hc3).1) (by decide) (by decide) ?_
      refine XS.aloadN X2.here hx rfl (hb hby d13_18) rfl rfl ?_
      refine XS.iloadN X2.here hx rfl (hb hby d13_19) rfl ?_
      refine XS.iloadN X2.here hx rfl (hb hby d13_20) rfl ?_
      exact Steps.refl _)
    have Vp5 : Arv Z h0 a ka .char (8 : Int32) (os.map Value.int ++ [.int (0 : Int32)]) (.int (0 : Int32)) := Ka.pad (pad_rep _ _ 1)
    obtain ⟨cl6, Ar6, q6, S6, M6, H6, G6⟩ := id Vp5
    have hin6 : ¬ ((Int32.ofNat os.length) < 0 ∨ cl6.slots.size ≤ ((Int32.ofNat os.length)).toNatClampNeg) := inb_of S6 ⟨own_nneg (by first | omega | (simp; omega)), (own_lt32 (n := 8) (by first | omega | (simp; omega)) (by decide)).mpr (by first | omega | (simp; omega))⟩
    obtain ⟨T6, h6, X6, e6, W6, st6⟩ := stC X2 hx hZ e2 Ar6 (j := (Int32.ofNat os.length)) hin6 (g := (mkF m 21 #[.val (.ref a), .val (.int (Int32.ofNat os.length)), .val (.int k), .val (.int (Int32.ofNat os.length))] [(.int k), (.int (Int32.ofNat os.length)), (.ref a)])) rfl rfl (hb hby d13_21)
    have V6 := Arv.set Ar6 q6 S6 M6 H6 G6 (fits_nar_char _) W6 os.length (own_clamp (by first | omega | (simp; omega))) (by simp)
    have N6 := Fr.snoc X6 N2 ga
    rw [hk.nar] at V6
    rw [own_osSet] at V6
    have c7 : Steps p.tables e below S0 (T6.setTop (mkF m 25 #[.val (.ref a), .val (.int (Int32.ofNat os.length)), .val (.int k), .val (.int (Int32.ofNat os.length))] [(.int ((Int32.ofNat os.length) + (1 : Int32)))])) := c4.trans (by
      refine st6 _ ?_
      refine XS.iloadN X6.here hx rfl (hb hby d13_22) rfl ?_
      refine XS.iconst X6.here hx rfl (hb hby d13_23) ?_
      refine XS.iadd X6.here hx rfl (hb hby d13_24) rfl ?_
      exact Steps.refl _)
    refine ⟨T6, (some (.int ((Int32.ofNat os.length) + (1 : Int32)))), _, _, _, X6, by decide, by decide, (fun q => by cases q), N6, ?_, fun fs hr => ?_⟩
    · rw [e6]
      have hsp : own_sp k = false := (own_i0 _).mp hc3
      have hE : os ++ [k] = os ++ own_e1 k := by simp [own_e1, hsp]
      exact ⟨by rw [own_len1 os k, hE], ((Keep.refl h0 [a]).wr W6 (Or.inl (List.mem_of_getElem? (i := 0) rfl))), by rw [← hE]; exact V6⟩
    · exact c7.trans (retI X6 hx hret (hb hby d13_25) hr)
  · skip
    have c9 : Steps p.tables e below S0 (T2.setTop (mkF m 13 #[.val (.ref a), .val (.int (Int32.ofNat os.length)), .val (.int k), .val (.int (Int32.ofNat os.length))] [(.int (92 : Int32)), (.int (Int32.ofNat os.length)), (.ref a)])) := c2.trans (by
      refine XS.ifNo X2.here hx rfl (hb hby d13_6) rfl ((if0 _ _).trans (feq hc3).1) ?_
      refine XS.aloadN X2.here hx rfl (hb hby d13_9) rfl rfl ?_
      refine XS.iloadN X2.here hx rfl (hb hby d13_10) rfl ?_
      refine XS.bipush X2.here hx rfl (hb hby d13_11) ?_
      exact Steps.refl _)
    have Vp10 : Arv Z h0 a ka .char (8 : Int32) (os.map Value.int ++ [.int (0 : Int32)]) (.int (0 : Int32)) := Ka.pad (pad_rep _ _ 1)
    obtain ⟨cl11, Ar11, q11, S11, M11, H11, G11⟩ := id Vp10
    have hin11 : ¬ ((Int32.ofNat os.length) < 0 ∨ cl11.slots.size ≤ ((Int32.ofNat os.length)).toNatClampNeg) := inb_of S11 ⟨own_nneg (by first | omega | (simp; omega)), (own_lt32 (n := 8) (by first | omega | (simp; omega)) (by decide)).mpr (by first | omega | (simp; omega))⟩
    obtain ⟨T11, h11, X11, e11, W11, st11⟩ := stC X2 hx hZ e2 Ar11 (j := (Int32.ofNat os.length)) hin11 (g := (mkF m 13 #[.val (.ref a), .val (.int (Int32.ofNat os.length)), .val (.int k), .val (.int (Int32.ofNat os.length))] [(.int (92 : Int32)), (.int (Int32.ofNat os.length)), (.ref a)])) rfl rfl (hb hby d13_13)
    have V11 := Arv.set Ar11 q11 S11 M11 H11 G11 (fits_nar_char _) W11 os.length (own_clamp (by first | omega | (simp; omega))) (by simp)
    have N11 := Fr.snoc X11 N2 ga
    have V11 : Arv Z h11 a ka .char (8 : Int32) ((os ++ [(92 : Int32)]).map Value.int) (.int (0 : Int32)) := by rw [← own_osSet]; exact V11
    have c12 : Steps p.tables e below S0 (T11.setTop (mkF m 17 #[.val (.ref a), .val (.int (Int32.ofNat os.length)), .val (.int k), .val (.int (Int32.ofNat os.length))] [(.int ((Int32.ofNat os.length) + (1 : Int32)))])) := c9.trans (by
      refine st11 _ ?_
      refine XS.iloadN X11.here hx rfl (hb hby d13_14) rfl ?_
      refine XS.iconst X11.here hx rfl (hb hby d13_15) ?_
      refine XS.iadd X11.here hx rfl (hb hby d13_16) rfl ?_
      exact Steps.refl _)
    have eq13 : ((Int32.ofNat os.length) + (1 : Int32)) = (Int32.ofNat (os ++ [(92 : Int32)]).length) := own_len1 _ _
    have c13 : Steps p.tables e below S0 (T11.setTop (mkF m 17 #[.val (.ref a), .val (.int (Int32.ofNat os.length)), .val (.int k), .val (.int (Int32.ofNat os.length))] [(.int (Int32.ofNat (os ++ [(92 : Int32)]).length))])) := by have q := c12; rw [eq13] at q; exact q
    have c14 : Steps p.tables e below S0 (T11.setTop (mkF m 21 #[.val (.ref a), .val (.int (Int32.ofNat os.length)), .val (.int k), .val (.int (Int32.ofNat (os ++ [(92 : Int32)]).length))] [(.int k), (.int (Int32.ofNat (os ++ [(92 : Int32)]).length)), (.ref a)])) := c13.trans (by
      refine XS.istoreN X11.here hx rfl (hb hby d13_17) rfl (l' := #[.val (.ref a), .val (.int (Int32.ofNat os.length)), .val (.int k), .val (.int (Int32.ofNat (os ++ [(92 : Int32)]).length))]) rfl ?_
      refine XS.aloadN X11.here hx rfl (hb hby d13_18) rfl rfl ?_
      refine XS.iloadN X11.here hx rfl (hb hby d13_19) rfl ?_
      refine XS.iloadN X11.here hx rfl (hb hby d13_20) rfl ?_
      exact Steps.refl _)
    have Vp15 : Arv Z h11 a ka .char (8 : Int32) ((os ++ [(92 : Int32)]).map Value.int ++ [.int (0 : Int32)]) (.int (0 : Int32)) := V11.pad (pad_rep _ _ 1)
    obtain ⟨cl16, Ar16, q16, S16, M16, H16, G16⟩ := id Vp15
    have hin16 : ¬ ((Int32.ofNat (os ++ [(92 : Int32)]).length) < 0 ∨ cl16.slots.size ≤ ((Int32.ofNat (os ++ [(92 : Int32)]).length)).toNatClampNeg) := inb_of S16 ⟨own_nneg (by first | omega | (simp; omega)), (own_lt32 (n := 8) (by first | omega | (simp; omega)) (by decide)).mpr (by first | omega | (simp; omega))⟩
    obtain ⟨T16, h16, X16, e16, W16, st16⟩ := stC X11 hx hZ e11 Ar16 (j := (Int32.ofNat (os ++ [(92 : Int32)]).length)) hin16 (g := (mkF m 21 #[.val (.ref a), .val (.int (Int32.ofNat os.length)), .val (.int k), .val (.int (Int32.ofNat (os ++ [(92 : Int32)]).length))] [(.int k), (.int (Int32.ofNat (os ++ [(92 : Int32)]).length)), (.ref a)])) rfl rfl (hb hby d13_21)
    have V16 := Arv.set Ar16 q16 S16 M16 H16 G16 (fits_nar_char _) W16 (os ++ [(92 : Int32)]).length (own_clamp (by first | omega | (simp; omega))) (by simp)
    have N16 := Fr.snoc X16 N11 ga
    rw [hk.nar] at V16
    rw [own_osSet] at V16
    have c17 : Steps p.tables e below S0 (T16.setTop (mkF m 25 #[.val (.ref a), .val (.int (Int32.ofNat os.length)), .val (.int k), .val (.int (Int32.ofNat (os ++ [(92 : Int32)]).length))] [(.int ((Int32.ofNat (os ++ [(92 : Int32)]).length) + (1 : Int32)))])) := c14.trans (by
      refine st16 _ ?_
      refine XS.iloadN X16.here hx rfl (hb hby d13_22) rfl ?_
      refine XS.iconst X16.here hx rfl (hb hby d13_23) ?_
      refine XS.iadd X16.here hx rfl (hb hby d13_24) rfl ?_
      exact Steps.refl _)
    refine ⟨T16, (some (.int ((Int32.ofNat (os ++ [(92 : Int32)]).length) + (1 : Int32)))), _, _, _, X16, by decide, by decide, (fun q => by cases q), N16, ?_, fun fs hr => ?_⟩
    · rw [e16]
      have hsp : own_sp k = true := by cases q : own_sp k with | true => rfl | false => exact absurd (own_iF q) hc3
      have hE : (os ++ [(92 : Int32)]) ++ [k] = os ++ own_e1 k := by simp [own_e1, hsp]
      exact ⟨by rw [own_len1 (os ++ [(92 : Int32)]) k, hE], (((Keep.refl h0 [a]).wr W11 (Or.inl (List.mem_of_getElem? (i := 0) rfl))).wr W16 (Or.inl (List.mem_of_getElem? (i := 0) rfl))), by rw [← hE]; exact V16⟩
    · exact c17.trans (retI X16 hx hret (hb hby d13_25) hr)
set_option maxRecDepth 65536 in
set_option maxHeartbeats 40000000 in
theorem rmAt (l : Launch) (Z : State) (a0 : Array Value) (hw : ∀ d ∈ tables_1, d.before a0 Z = true) (os : List Int32) (x t : Addr) (kb : ClassId) (a : Addr) (ka : ClassId) (k : Nat) (z : Int32) (fm : Value) (h0 : Heap) (O0 : Old Z Z.heap.size h0) (E : Exa Z h0 x "java/lang/String") (V : Fld Z h0 x "java/lang/String" "value" "[B" (.ref t)) (Cd : Fld Z h0 x "java/lang/String" "coder" "B" (.int (0 : Int32))) (K : Arv Z h0 t kb .byte (Int32.ofNat (os : List Int32).length) (((os : List Int32).map (fun c : Int32 => c.toInt8.toInt32)).map Value.int) (.int (0 : Int32))) (Ka : Arv Z h0 a ka .char (8 : Int32) (os.map Value.int) (.int (0 : Int32))) (hB : ∀ c ∈ os, own_B c) (hk : k < 8) (hl : os.length ≤ 8) (SC : Sta Z Z.heap "java/lang/String" "COMPACT_STRINGS" "Z" (.int z)) (hz : ¬ z = 0) (SF : Sta Z Z.heap "jdk/internal/util/Preconditions" "SIOOBE_FORMATTER" "Ljava/util/function/BiFunction;" fm) (hfm : fm.isRef = true) :
    own_NC l Z (⟨"com/example/attestor/attestor/interpolation/MessageTemplateEscapePinLaw", "at", "(Ljava/lang/String;[CII)Z"⟩ : MethodName) method_6_code 4 (some .boolean) ({ frames := 4, cells := 0, slots := 0, locals := 60 } : Room) #[(.ref x), (.ref a), (.int (Int32.ofNat (os : List Int32).length)), (.int (Int32.ofNat k))] h0 (fun v h => v = some (.int (1 : Int32)) ∧ h = h0) := by
  refine own_nc (plainFor_of_name (by first | (simp [plainName, overriddenIn]; done) | decide +kernel)) ?_
  intro p e s m below meth c s₁ S0 X0 hx hby hml hret hnm hown hZ e0 cc
  have N0 := Fr.nil Z.heap.size
  have c0 : Steps p.tables e below S0 (s₁.setTop (mkF m 0 #[.val (.ref x), .val (.ref a), .val (.int (Int32.ofNat (os : List Int32).length)), .val (.int (Int32.ofNat k))] [])) := cc.trans (XT.entry rfl)
  have c1 : Steps p.tables e below S0 (s₁.setTop (mkF m 2 #[.val (.ref x), .val (.ref a), .val (.int (Int32.ofNat (os : List Int32).length)), .val (.int (Int32.ofNat k))] [(.int (Int32.ofNat (os : List Int32).length)), (.int (Int32.ofNat k))])) := c0.trans (by
    refine XS.iloadN X0.here hx rfl (hb hby d9_0) rfl ?_
    refine XS.iloadN X0.here hx rfl (hb hby d9_1) rfl ?_
    exact Steps.refl _)
  by_cases hc2 : (Int32.ofNat k) < (Int32.ofNat (os : List Int32).length)
  · skip
    have c3 : Steps p.tables e below S0 (s₁.setTop (mkF m 7 #[.val (.ref x), .val (.ref a), .val (.int (Int32.ofNat (os : List Int32).length)), .val (.int (Int32.ofNat k))] [(.int (Int32.ofNat k)), (.ref x)])) := c1.trans (by
      refine XS.icmpNo X0.here hx rfl (hb hby d9_2) rfl (tlt hc2).2.1 ?_
      refine XS.aloadN X0.here hx rfl (hb hby d9_5) rfl rfl ?_
      refine XS.iloadN X0.here hx rfl (hb hby d9_6) rfl ?_
      exact Steps.refl _)
    obtain ⟨v4, T4, L4, X4, ⟨rfl, rfl, e4⟩, c4'⟩ := own_virt X0 hx hml hZ hown (hw _ (List.mem_of_getElem? (i := 209) rfl)) (hw _ (List.mem_of_getElem? (i := 66) rfl)) (hw _ (List.mem_of_getElem? (i := 68) rfl)) (hw _ (List.mem_of_getElem? (i := 67) rfl)) (hw _ (List.mem_of_getElem? (i := 68) rfl)) (by decide) (Q := fun v h' L => v = some (.int (own_at9 os k)) ∧ L = [] ∧ h' = h0) (kc := 0) (ks := 0) (h := h0) (W := 0) (b := x) (argsL := [(.int (Int32.ofNat k))]) (rest := []) (StrChars.Road.chN (s := s) (R := ({ frames := 4, cells := 0, slots := 0, locals := 60 } : Room)) (W := 0) hZ (own_wch hw) (kI := 4) (hw _ (List.mem_of_getElem? (i := 9) rfl)) (cs := os) E V Cd K (StrChars.Road.codOf (n := (os : List Int32).length) rfl (fun c hc => (hB c hc).rng.2)) (fun c hc => (hB c hc).rng2) (SC.ext O0.2) hz (SF.ext O0.2) hfm (by omega) (i := k) ((own_lt32 (by omega) (by omega)).mp hc2) rfl (by decide) (by decide)) E c3 (lenOf pd_17 rfl) rfl (hb hby d9_7) e0
    have N4 := Fr.app N0 (Fr.nil _)
    have c4 : Steps p.tables e below S0 (T4.setTop (mkF m 10 #[.val (.ref x), .val (.ref a), .val (.int (Int32.ofNat (os : List Int32).length)), .val (.int (Int32.ofNat k))] [(.int (own_at9 os k))])) := c4'
    obtain ⟨cl5, Ar5, q5, S5, M5, H5, G5⟩ := id Ka
    have hin5 : ¬ ((Int32.ofNat k) < 0 ∨ cl5.slots.size ≤ ((Int32.ofNat k)).toNatClampNeg) := inb_of S5 ⟨own_nneg (by omega), (own_lt32 (n := 8) (by omega) (by decide)).mpr hk⟩
    have hat5 := Has.at (v := .int (own_at9 os k)) H5 hin5 (by rw [own_clamp (by omega)]; exact own_getD os k)
    have c6 : Steps p.tables e below S0 (T4.setTop (mkF m 21 #[.val (.ref x), .val (.ref a), .val (.int (Int32.ofNat (os : List Int32).length)), .val (.int (Int32.ofNat k))] [(.int (1 : Int32))])) := c4.trans (by
      refine XS.aloadN X4.here hx rfl (hb hby d9_10) rfl rfl ?_
      refine XS.iloadN X4.here hx rfl (hb hby d9_11) rfl ?_
      refine X4.caload hx (cell := cl5) (by rw [show T4.heap = h0 from e4]; exact Ar5.1) (State.isArrayOf_alike (hZ).alike Ar5.2.1) Ar5.2.2 hin5 hat5 (g := (mkF m 12 #[.val (.ref x), .val (.ref a), .val (.int (Int32.ofNat (os : List Int32).length)), .val (.int (Int32.ofNat k))] [(.int (Int32.ofNat k)), (.ref a), (.int (own_at9 os k))])) rfl rfl (hb hby d9_12) _ ?_
      refine XS.icmpNo X4.here hx rfl (hb hby d9_13) rfl (teq (rfl : (own_at9 os k) = (own_at9 os k))).2 ?_
      refine XS.iconst X4.here hx rfl (hb hby d9_16) ?_
      refine XS.goto X4.here hx rfl (pc0 := 17) (pc' := 21) rfl (hb hby d9_17) (by decide) (by decide) ?_
      exact Steps.refl _)
    refine ⟨T4, (some (.int (1 : Int32))), _, _, _, X4, by decide, by decide, (fun q => by cases q), N4, ?_, fun fs hr => ?_⟩
    · rw [e4]
      exact ⟨rfl, rfl⟩
    · exact c6.trans (retN X4 hx (t := .boolean) hret (by simp) (hb hby d9_21) hr)
  · skip
    have c8 : Steps p.tables e below S0 (s₁.setTop (mkF m 21 #[.val (.ref x), .val (.ref a), .val (.int (Int32.ofNat (os : List Int32).length)), .val (.int (Int32.ofNat k))] [(.int (1 : Int32))])) := c1.trans (by
      refine XS.icmpYes X0.here hx rfl (pc0 := 2) (pc' := 16) rfl (hb hby d9_2) rfl (flt hc2).2.1 (by decide) (by decide) ?_
      refine XS.iconst X0.here hx rfl (hb hby d9_16) ?_
      refine XS.goto X0.here hx rfl (pc0 := 17) (pc' := 21) rfl (hb hby d9_17) (by decide) (by decide) ?_
      exact Steps.refl _)
    refine ⟨s₁, (some (.int (1 : Int32))), _, _, _, X0, by decide, by decide, (fun q => by cases q), N0, ?_, fun fs hr => ?_⟩
    · rw [e0]
      exact ⟨rfl, rfl⟩
    · exact c8.trans (retN X0 hx (t := .boolean) hret (by simp) (hb hby d9_21) hr)
set_option maxRecDepth 65536 in
set_option maxHeartbeats 40000000 in
theorem rmI4 (l : Launch) (Z : State) (a0 : Array Value) (hw : ∀ d ∈ tables_1, d.before a0 Z = true) (hEL : EW Z a0 EL) (x b : Addr) (u1 u2 : Value) (h0 : Heap) (O0 : Old Z Z.heap.size h0) (E : Exa Z h0 x "java/lang/String") (V : Fld Z h0 x "java/lang/String" "value" "[B" u1) (Cd : Fld Z h0 x "java/lang/String" "coder" "B" u2) (gx : Z.heap.size ≤ x) :
    own_WC l Z EL (⟨"java/lang/String", "<init>", "([CIILjava/lang/Void;)V"⟩ : MethodName) jdk_42_method_149_code 6 none ({ frames := 1, cells := 4, slots := 8, locals := 12 } : Room) #[(.ref x), (.ref b), (.int (0 : Int32)), (.int (0 : Int32)), .null] h0 [x] (fun v h => v = none ∧ Keep h0 h [x] ∧ Exa Z h x "java/lang/String" ∧ Fld Z h x "java/lang/String" "coder" "B" (.int (0 : Int32)) ∧ ∃ (t : Addr) (kt : ClassId), Fld Z h x "java/lang/String" "value" "[B" (.ref t) ∧ Arv Z h t kt .byte (0 : Int32) [] (.int (0 : Int32))) := by
  refine own_wc (plainFor_of_name (by first | (simp [plainName, overriddenIn]; done) | decide +kernel)) hEL ?_
  intro p e s m below meth c s₁ S0 X0 hx hby hml hret hnm hown hZ e0 hS0 CR0 hsf cc
  have N0 := Fr.nil Z.heap.size
  have hk0 : 0 ≤ h0.size := Nat.zero_le _
  have hstr : ∀ d ∈ Bundle.stringAtoms, d.before a0 Z = true := fun d hd => hw d (own_strA d hd)
  have c0 : Steps p.tables e below S0 (s₁.setTop (mkF m 0 #[.val (.ref x), .val (.ref b), .val (.int (0 : Int32)), .val (.int (0 : Int32)), .val .null, .unset] [])) := cc.trans (XT.entry rfl)
  obtain ⟨T1, X1, e1, st1⟩ := initO X0 hx hZ hown (hw _ (List.mem_of_getElem? (i := 19) rfl)) (hw _ (List.mem_of_getElem? (i := 20) rfl)) (hw _ (List.mem_of_getElem? (i := 21) rfl)) e0 (g := (mkF m 1 #[.val (.ref x), .val (.ref b), .val (.int (0 : Int32)), .val (.int (0 : Int32)), .val .null, .unset] [(.ref x)])) rfl (by rw [hml]; rfl) rfl (hb hby d4_1) (by decide) (W := 0) (by show 2 * 0 + _ ≤ _; exact Nat.le_of_eq rfl) (by decide)
  obtain ⟨la_2, T2, h2, kn2, lb_2, lk2, X2, e2, E2, hS2, hk2, hZ2, hown2, Ea2, Ca2, Va2, Kb2, la2, lb2, R2, Lt2, ne2, st2⟩ := ldcCH X1 hx hZ hown (hw _ (List.mem_of_getElem? (i := 22) rfl)) hstr e1 hS0 hk0 hEL (by decide) CR0.1 (vs := []) (z := (0 : Int32)) ⟨by decide, by decide⟩ (by decide) (by decide) (g := (mkF m 9 #[.val (.ref x), .val (.ref b), .val (.int (0 : Int32)), .val (.int (0 : Int32)), .val .null, .unset] [(.ref x)])) rfl (hb hby d4_9) (n := 0) (by decide) (by decide) (by decide) (by decide)
  have CR2 := CR0.trans R2
  obtain ⟨T3, X3, e3, st3⟩ := getF X2 hx hZ2 hown2 (host := "") (Or.inl (hw _ (List.mem_of_getElem? (i := 28) rfl))) Via.refl e2 Va2 (g := (mkF m 11 #[.val (.ref x), .val (.ref b), .val (.int (0 : Int32)), .val (.int (0 : Int32)), .val .null, .unset] [(.ref la_2), (.ref x)])) rfl rfl (hb hby d4_11)
  obtain ⟨T4, h4, X4, e4, W4, st4⟩ := putF X3 hx hZ2 hown2 (host := "") (Or.inl (hw _ (List.mem_of_getElem? (i := 28) rfl))) Via.refl e3 (V.ext E2) (E.ext E2) (Or.inr ⟨(hw _ (List.mem_of_getElem? (i := 24) rfl)), rfl, hnm⟩) (hw _ (List.mem_of_getElem? (i := 9) rfl)) (ty := (.array .byte)) (by decide) rfl rfl (g := (mkF m 14 #[.val (.ref x), .val (.ref b), .val (.int (0 : Int32)), .val (.int (0 : Int32)), .val .null, .unset] [(.ref lb_2), (.ref x)])) rfl rfl (hb hby d4_14)
  have N4 := Fr.snoc X4 N0 gx
  have Fw4 := (V.ext E2).same W4
  have R4 := CHr.wr W4 (R2.safe E.lt (hsf x (List.mem_cons_self ..))) CR2.1
  have CR4 := CR2.trans R4
  have hk4 := Nat.le_trans hk2 R4.2.1
  obtain ⟨la_5, T5, h5, kn5, lb_5, lk5, X5, e5, E5, hS5, hk5, hZ5, hown5, Ea5, Ca5, Va5, Kb5, la5, lb5, R5, Lt5, ne5, st5⟩ := ldcCH X4 hx hZ2 hown2 (hw _ (List.mem_of_getElem? (i := 22) rfl)) hstr e4 hS2 hk4 hEL (by decide) CR4.1 (vs := []) (z := (0 : Int32)) ⟨by decide, by decide⟩ (by decide) (by decide) (g := (mkF m 18 #[.val (.ref x), .val (.ref b), .val (.int (0 : Int32)), .val (.int (0 : Int32)), .val .null, .unset] [(.ref x)])) rfl (hb hby d4_18) (n := 0) (by decide) (by decide) (by decide) (by decide)
  have CR5 := CR4.trans R5
  obtain ⟨T6, X6, e6, st6⟩ := getF X5 hx hZ5 hown5 (host := "") (Or.inl (hw _ (List.mem_of_getElem? (i := 29) rfl))) Via.refl e5 Ca5 (g := (mkF m 20 #[.val (.ref x), .val (.ref b), .val (.int (0 : Int32)), .val (.int (0 : Int32)), .val .null, .unset] [(.ref la_5), (.ref x)])) rfl rfl (hb hby d4_20)
  obtain ⟨T7, h7, X7, e7, W7, st7⟩ := putFN X6 hx hZ5 hown5 (hw _ (List.mem_of_getElem? (i := 29) rfl)) Via.refl e6 (((Cd.ext E2).other W4 (Or.inr (slot_ne (Or.inr (hw _ (List.mem_of_getElem? (i := 25) rfl))) (Or.inr (hw _ (List.mem_of_getElem? (i := 24) rfl))) (by decide) (t := .byte) (t' := (.array .byte)) (by decide) (by decide)))).ext E5) (((E.ext E2).wr W4).ext E5) (Or.inr ⟨(hw _ (List.mem_of_getElem? (i := 25) rfl)), rfl, hnm⟩) (hw _ (List.mem_of_getElem? (i := 9) rfl)) (ty := .byte) (v' := (.int (0 : Int32))) (by decide) rfl rfl (g := (mkF m 23 #[.val (.ref x), .val (.ref b), .val (.int (0 : Int32)), .val (.int (0 : Int32)), .val .null, .unset] [(.int (0 : Int32)), (.ref x)])) rfl rfl (hb hby d4_23)
  have N7 := Fr.snoc X7 N4 gx
  have Fw7 := (((Cd.ext E2).other W4 (Or.inr (slot_ne (Or.inr (hw _ (List.mem_of_getElem? (i := 25) rfl))) (Or.inr (hw _ (List.mem_of_getElem? (i := 24) rfl))) (by decide) (t := .byte) (t' := (.array .byte)) (by decide) (by decide)))).ext E5).same W7
  have R7 := CHr.wr W7 (((R2.trans R4).trans R5).safe E.lt (hsf x (List.mem_cons_self ..))) CR5.1
  have CR7 := CR5.trans R7
  have hk7 := Nat.le_trans hk5 R7.2.1
  have c8 : Steps p.tables e below S0 (T7.setTop (mkF m 26 #[.val (.ref x), .val (.ref b), .val (.int (0 : Int32)), .val (.int (0 : Int32)), .val .null, .unset] [])) := c0.trans (by
    refine XS.aloadN X0.here hx rfl (hb hby d4_0) rfl rfl ?_
    refine st1 _ ?_
    refine XS.iloadN X1.here hx rfl (hb hby d4_4) rfl ?_
    refine XS.ifNo X1.here hx rfl (hb hby d4_5) rfl ((if0 _ _).trans (teq (by decide : (0 : Int32) = (0 : Int32))).2) ?_
    refine XS.aloadN X1.here hx rfl (hb hby d4_8) rfl rfl ?_
    refine st2 _ ?_
    show Steps p.tables e below (T2.setTop (mkF m 11 #[.val (.ref x), .val (.ref b), .val (.int (0 : Int32)), .val (.int (0 : Int32)), .val .null, .unset] [(.ref la_2), (.ref x)])) _
    refine st3 _ ?_
    refine st4 _ ?_
    refine XS.aloadN X4.here hx rfl (hb hby d4_17) rfl rfl ?_
    refine st5 _ ?_
    show Steps p.tables e below (T5.setTop (mkF m 20 #[.val (.ref x), .val (.ref b), .val (.int (0 : Int32)), .val (.int (0 : Int32)), .val .null, .unset] [(.ref la_5), (.ref x)])) _
    refine st6 _ ?_
    refine st7 _ ?_
    exact Steps.refl _)
  refine ⟨T7, T5.vm, _, none, _, _, _, X7, by decide, by decide, (fun _ => rfl), N7, hS5, by rw [e7]; exact hk7, hZ5, by rw [e7]; exact CR7, ?_, fun fs hr => ?_⟩
  · rw [e7]
    exact ⟨rfl, (((((Keep.refl h0 [x]).ext E2).wr W4 (Or.inl (List.mem_of_getElem? (i := 0) rfl))).ext E5).wr W7 (Or.inl (List.mem_of_getElem? (i := 0) rfl))), ((((E.ext E2).wr W4).ext E5).wr W7), Fw7, lb_2, lk2, ((Fw4.ext E5).other W7 (Or.inr (slot_ne (Or.inr (hw _ (List.mem_of_getElem? (i := 24) rfl))) (Or.inr (hw _ (List.mem_of_getElem? (i := 25) rfl))) (by decide) (t := (.array .byte)) (t' := .byte) (by decide) (by decide)))), (((Kb2.other W4 (Ne.symm (ne2 x (R2.safe E.lt (hsf x (List.mem_cons_self ..)))).2)).ext E5).other W7 (Ne.symm (ne2 x (R2.safe E.lt (hsf x (List.mem_cons_self ..)))).2))⟩
  · exact c8.trans (X7.returnOut hx hret (hb hby d4_26) hr)
set_option maxRecDepth 65536 in
set_option maxHeartbeats 40000000 in
theorem rmI1 (l : Launch) (Z : State) (a0 : Array Value) (hw : ∀ d ∈ tables_1, d.before a0 Z = true) (hEL : EW Z a0 EL) (x b : Addr) (kc : ClassId) (u1 u2 : Value) (h0 : Heap) (O0 : Old Z Z.heap.size h0) (E : Exa Z h0 x "java/lang/String") (V : Fld Z h0 x "java/lang/String" "value" "[B" u1) (Cd : Fld Z h0 x "java/lang/String" "coder" "B" u2) (gx : Z.heap.size ≤ x) (Kc : Arv Z h0 b kc .char (0 : Int32) [] (.int (0 : Int32))) :
    own_WC l Z EL (⟨"java/lang/String", "<init>", "([C)V"⟩ : MethodName) jdk_42_method_3_code 2 none ({ frames := 2, cells := 4, slots := 8, locals := 30 } : Room) #[(.ref x), (.ref b)] h0 [x] (fun v h => v = none ∧ Keep h0 h [x] ∧ Exa Z h x "java/lang/String" ∧ Fld Z h x "java/lang/String" "coder" "B" (.int (0 : Int32)) ∧ ∃ (t : Addr) (kt : ClassId), Fld Z h x "java/lang/String" "value" "[B" (.ref t) ∧ Arv Z h t kt .byte (0 : Int32) [] (.int (0 : Int32))) := by
  refine own_wc (plainFor_of_name (by first | (simp [plainName, overriddenIn]; done) | decide +kernel)) hEL ?_
  intro p e s m below meth c s₁ S0 X0 hx hby hml hret hnm hown hZ e0 hS0 CR0 hsf cc
  have N0 := Fr.nil Z.heap.size
  have hk0 : 0 ≤ h0.size := Nat.zero_le _
  have hstr : ∀ d ∈ Bundle.stringAtoms, d.before a0 Z = true := fun d hd => hw d (own_strA d hd)
  have c0 : Steps p.tables e below S0 (s₁.setTop (mkF m 0 #[.val (.ref x), .val (.ref b)] [])) := cc.trans (XT.entry rfl)
  obtain ⟨cl1, Ar1, q1, S1, M1, H1, G1⟩ := id Kc
  have c2 : Steps p.tables e below S0 (s₁.setTop (mkF m 6 #[.val (.ref x), .val (.ref b)] [.null, (.int (0 : Int32)), (.int (0 : Int32)), (.ref b), (.ref x)])) := c0.trans (by
    refine XS.aloadN X0.here hx rfl (hb hby d3_0) rfl rfl ?_
    refine XS.aloadN X0.here hx rfl (hb hby d3_1) rfl rfl ?_
    refine XS.iconst X0.here hx rfl (hb hby d3_2) ?_
    refine XS.aloadN X0.here hx rfl (hb hby d3_3) rfl rfl ?_
    refine X0.arraylength hx (by rw [show s₁.heap = h0 from e0]; exact Ar1.1) (State.isArrayOf_alike (hZ).alike Ar1.2.1) (g := (mkF m 4 #[.val (.ref x), .val (.ref b)] [(.ref b), (.int (0 : Int32)), (.ref b), (.ref x)])) rfl rfl (hb hby d3_4) _ ?_
    rw [len_of S1 M1]
    refine XS.aconstNull X0.here hx rfl (hb hby d3_5) ?_
    exact Steps.refl _)
  obtain ⟨v3, T3, L3, X3, hS3, hZ3, hown3, R3, ⟨N3', rfl, K3, E3, Cd3, t3, kt3, V3, Kt3⟩, c3'⟩ := own_wspec X0 hx hml hZ hown hS0 hk0 rfl (hw _ (List.mem_of_getElem? (i := 15) rfl)) (hw _ (List.mem_of_getElem? (i := 16) rfl)) (hw _ (List.mem_of_getElem? (i := 18) rfl)) (by decide) (kc := 4) (ks := 8) (h := h0) (W := 0) (b := x) (argsL := [(.ref b), (.int (0 : Int32)), (.int (0 : Int32)), .null]) (rest := []) (own_wpay (W := 0) (rmI4 l Z a0 hw hEL x b u1 u2 h0 O0 E V Cd gx) hZ (hw _ (List.mem_of_getElem? (i := 18) rfl)) (hw _ (List.mem_of_getElem? (i := 10) rfl)) (by decide) (by decide) hEL CR0.1 (allS ⟨E.lt, (hsf x (List.mem_cons_self ..))⟩ all0)) c2 (lenOf pd_21 rfl) rfl (hb hby d3_6) e0
  have N3 := Fr.app N0 N3'
  have CR3 := CR0.trans R3
  have c3 : Steps p.tables e below S0 (T3.setTop (mkF m 9 #[.val (.ref x), .val (.ref b)] [])) := c3'
  refine ⟨T3, T3.vm, _, none, _, _, _, X3, by decide, by decide, (fun _ => rfl), N3, hS3, (Nat.le_refl _), hZ3, CR3, ?_, fun fs hr => ?_⟩
  · skip
    exact ⟨rfl, K3, E3, Cd3, t3, kt3, V3, Kt3⟩
  · exact c3.trans (X3.returnOut hx hret (hb hby d3_9) hr)
set_option maxRecDepth 65536 in
set_option maxHeartbeats 40000000 in
theorem rmMk0 (l : Launch) (Z : State) (a0 : Array Value) (hw : ∀ d ∈ tables_1, d.before a0 Z = true) (hEL : EW Z a0 EL) (ja jb jc jd : Int32) (z : Int32) (fm : Value) (h0 : Heap) (O0 : Old Z Z.heap.size h0) (hBja : own_B ja) (hBjb : own_B jb) (hBjc : own_B jc) (hBjd : own_B jd) (SC : Sta Z Z.heap "java/lang/String" "COMPACT_STRINGS" "Z" (.int z)) (hz : ¬ z = 0) (SF : Sta Z Z.heap "jdk/internal/util/Preconditions" "SIOOBE_FORMATTER" "Ljava/util/function/BiFunction;" fm) (hfm : fm.isRef = true) :
    own_WC l Z EL (⟨"com/example/attestor/attestor/interpolation/MessageTemplateEscapePinLaw", "make", "(ICCCC)Ljava/lang/String;"⟩ : MethodName) method_5_code 5 (some (.object "java/lang/String")) ({ frames := 7, cells := 6, slots := 40, locals := 110 } : Room) #[(.int (0 : Int32)), (.int ja), (.int jb), (.int jc), (.int jd)] h0 [] (fun v h => (∃ (x t : Addr) (kb : ClassId), v = some (.ref x) ∧ Keep h0 h [] ∧ h0.size ≤ x ∧ Exa Z h x "java/lang/String" ∧ Fld Z h x "java/lang/String" "value" "[B" (.ref t) ∧ Fld Z h x "java/lang/String" "coder" "B" (.int (0 : Int32)) ∧ Arv Z h t kb .byte (Int32.ofNat ([] : List Int32).length) ((([] : List Int32).map (fun c : Int32 => c.toInt8.toInt32)).map Value.int) (.int (0 : Int32)))) := by
  refine own_wc (plainFor_of_name (by first | (simp [plainName, overriddenIn]; done) | decide +kernel)) hEL ?_
  intro p e s m below meth c s₁ S0 X0 hx hby hml hret hnm hown hZ e0 hS0 CR0 hsf cc
  have N0 := Fr.nil Z.heap.size
  have hk0 : 0 ≤ h0.size := Nat.zero_le _
  have hstr : ∀ d ∈ Bundle.stringAtoms, d.before a0 Z = true := fun d hd => hw d (own_strA d hd)
  have c0 : Steps p.tables e below S0 (s₁.setTop (mkF m 0 #[.val (.int (0 : Int32)), .val (.int ja), .val (.int jb), .val (.int jc), .val (.int jd)] [])) := cc.trans (XT.entry rfl)
  obtain ⟨T1, h1, X1, e1, E1, A1, D1, -, st1⟩ := newO X0 hx hZ hown (hw _ (List.mem_of_getElem? (i := 8) rfl)) (hw _ (List.mem_of_getElem? (i := 9) rfl)) (hw _ (List.mem_of_getElem? (i := 10) rfl)) e0 (g := (mkF m 4 #[.val (.int (0 : Int32)), .val (.int ja), .val (.int jb), .val (.int jc), .val (.int jd)] [])) rfl (hb hby d2_4) (by decide) (by decide)
  obtain ⟨b1, g1⟩ : ∃ z, z = h0.size := ⟨_, rfl⟩
  rw [← g1] at A1 D1 st1
  have lo1 : h0.size ≤ b1 := Nat.le_of_eq g1.symm
  have ge1 : Z.heap.size ≤ b1 := Nat.le_trans O0.2.1 lo1
  have R1 := CHr.ext (EL := EL) E1 CR0.1
  have sf1 := Safe.ext E1 CR0.1 (Safe.new lo1)
  have CR1 := CR0.trans R1
  have hk1 := Nat.le_trans hk0 R1.2.1
  have F1_value : Fld Z h1 b1 "java/lang/String" "value" "[B" .null := D1 (Or.inr (hw _ (List.mem_of_getElem? (i := 24) rfl))) (ty := (.array .byte)) (by decide)
  have F1_coder : Fld Z h1 b1 "java/lang/String" "coder" "B" (.int (0 : Int32)) := D1 (Or.inr (hw _ (List.mem_of_getElem? (i := 25) rfl))) (ty := .byte) (by decide)
  obtain ⟨T2, h2, k2, X2, e2, E2, A2, st2⟩ := newP X1 hx hZ (hw _ (List.mem_of_getElem? (i := 11) rfl)) e1 (g := (mkF m 9 #[.val (.int (0 : Int32)), .val (.int ja), .val (.int jb), .val (.int jc), .val (.int jd)] [(.int (0 : Int32)), (.ref b1), (.ref b1)])) rfl (hb hby d2_9) rfl (by decide) (cap := 0) (by decide) (by decide) (by decide) (by decide)
  obtain ⟨b2, g2⟩ : ∃ z, z = h1.size := ⟨_, rfl⟩
  rw [← g2] at A2 st2
  have lo2 : h1.size ≤ b2 := Nat.le_of_eq g2.symm
  have ge2 : Z.heap.size ≤ b2 := Nat.le_trans (O0.ext E1).2.1 lo2
  have R2 := CHr.ext (EL := EL) E2 CR1.1
  have sf2 := Safe.ext E2 CR1.1 (Safe.new lo2)
  have CR2 := CR1.trans R2
  have hk2 := Nat.le_trans hk1 R2.2.1
  have V2 := Arv.new A2 (by decide)
  have c3 : Steps p.tables e below S0 (T2.setTop (mkF m 11 #[.val (.int (0 : Int32)), .val (.int ja), .val (.int jb), .val (.int jc), .val (.int jd)] [(.ref b2), (.ref b1), (.ref b1)])) := c0.trans (by
    refine XS.iloadN X0.here hx rfl (hb hby d2_0) rfl ?_
    refine XS.ifNo X0.here hx rfl (hb hby d2_1) rfl ((if0 _ _).trans (teq (by decide : (0 : Int32) = (0 : Int32))).2) ?_
    refine st1 _ ?_
    refine XS.dup X1.here hx rfl (hb hby d2_7) rfl rfl ?_
    refine XS.iconst X1.here hx rfl (hb hby d2_8) ?_
    refine st2 _ ?_
    show Steps p.tables e below (T2.setTop (mkF m 11 #[.val (.int (0 : Int32)), .val (.int ja), .val (.int jb), .val (.int jc), .val (.int jd)] [(.ref b2), (.ref b1), (.ref b1)])) _
    exact Steps.refl _)
  obtain ⟨v4, T4, L4, X4, hS4, hZ4, hown4, R4, ⟨N4', rfl, K4, E4, Cd4, t4, kt4, V4, Kt4⟩, c4'⟩ := own_wspec X2 hx hml hZ hown hS0 hk2 rfl (hw _ (List.mem_of_getElem? (i := 12) rfl)) (hw _ (List.mem_of_getElem? (i := 13) rfl)) (hw _ (List.mem_of_getElem? (i := 14) rfl)) (by decide) (kc := 4) (ks := 8) (h := h2) (W := 1) (b := b1) (argsL := [(.ref b2)]) (rest := [(.ref b1)]) (own_wpay (W := 1) (rmI1 l Z a0 hw hEL b1 b2 k2 _ _ h2 ((O0.ext E1).ext E2) (A1.ext E2) (F1_value.ext E2) (F1_coder.ext E2) ge1 V2) hZ (hw _ (List.mem_of_getElem? (i := 14) rfl)) (hw _ (List.mem_of_getElem? (i := 10) rfl)) (by decide) (by decide) hEL CR2.1 (allS ⟨(A1.ext E2).lt, (R2.safe A1.lt sf1)⟩ all0)) c3 (lenOf pd_22 rfl) rfl (hb hby d2_11) e2
  have N4 := Fr.app N0 N4'
  have CR4 := CR2.trans R4
  have c4 : Steps p.tables e below S0 (T4.setTop (mkF m 14 #[.val (.int (0 : Int32)), .val (.int ja), .val (.int jb), .val (.int jc), .val (.int jd)] [(.ref b1)])) := c4'
  refine ⟨T4, T4.vm, _, (some (.ref b1)), _, _, _, X4, by decide, by decide, (fun q => by cases q), N4, hS4, (Nat.le_refl _), hZ4, CR4, ?_, fun fs hr => ?_⟩
  · skip
    exact ⟨b1, t4, kt4, rfl, ((((Keep.refl h0 []).ext E1).ext E2).trans K4 (allS (Or.inr (Nat.le_trans (Keep.refl h0 []).1 lo1)) all0)), (Nat.le_trans (Keep.refl h0 []).1 lo1), E4, V4, Cd4, Kt4⟩
  · exact own_retR X4 hx c4 hret rfl rfl (hb hby d2_14) hr
set_option maxRecDepth 65536 in
set_option maxHeartbeats 40000000 in
theorem rmMk1 (l : Launch) (Z : State) (a0 : Array Value) (hw : ∀ d ∈ tables_1, d.before a0 Z = true) (hEL : EW Z a0 EL) (ja jb jc jd : Int32) (z : Int32) (fm : Value) (h0 : Heap) (O0 : Old Z Z.heap.size h0) (hBja : own_B ja) (hBjb : own_B jb) (hBjc : own_B jc) (hBjd : own_B jd) (SC : Sta Z Z.heap "java/lang/String" "COMPACT_STRINGS" "Z" (.int z)) (hz : ¬ z = 0) (SF : Sta Z Z.heap "jdk/internal/util/Preconditions" "SIOOBE_FORMATTER" "Ljava/util/function/BiFunction;" fm) (hfm : fm.isRef = true) :
    own_WC l Z EL (⟨"com/example/attestor/attestor/interpolation/MessageTemplateEscapePinLaw", "make", "(ICCCC)Ljava/lang/String;"⟩ : MethodName) method_5_code 5 (some (.object "java/lang/String")) ({ frames := 7, cells := 6, slots := 40, locals := 110 } : Room) #[(.int (1 : Int32)), (.int ja), (.int jb), (.int jc), (.int jd)] h0 [] (fun v h => (∃ (x t : Addr) (kb : ClassId), v = some (.ref x) ∧ Keep h0 h [] ∧ h0.size ≤ x ∧ Exa Z h x "java/lang/String" ∧ Fld Z h x "java/lang/String" "value" "[B" (.ref t) ∧ Fld Z h x "java/lang/String" "coder" "B" (.int (0 : Int32)) ∧ Arv Z h t kb .byte (Int32.ofNat ([ja] : List Int32).length) ((([ja] : List Int32).map (fun c : Int32 => c.toInt8.toInt32)).map Value.int) (.int (0 : Int32)))) := by
  refine own_wc (plainFor_of_name (by first | (simp [plainName, overriddenIn]; done) | decide +kernel)) hEL ?_
  intro p e s m below meth c s₁ S0 X0 hx hby hml hret hnm hown hZ e0 hS0 CR0 hsf cc
  have N0 := Fr.nil Z.heap.size
  have hk0 : 0 ≤ h0.size := Nat.zero_le _
  have hstr : ∀ d ∈ Bundle.stringAtoms, d.before a0 Z = true := fun d hd => hw d (own_strA d hd)
  have c0 : Steps p.tables e below S0 (s₁.setTop (mkF m 0 #[.val (.int (1 : Int32)), .val (.int ja), .val (.int jb), .val (.int jc), .val (.int jd)] [])) := cc.trans (XT.entry rfl)
  obtain ⟨T1, h1, X1, e1, E1, A1, D1, -, st1⟩ := newO X0 hx hZ hown (hw _ (List.mem_of_getElem? (i := 8) rfl)) (hw _ (List.mem_of_getElem? (i := 9) rfl)) (hw _ (List.mem_of_getElem? (i := 10) rfl)) e0 (g := (mkF m 20 #[.val (.int (1 : Int32)), .val (.int ja), .val (.int jb), .val (.int jc), .val (.int jd)] [])) rfl (hb hby d2_20) (by decide) (by decide)
  obtain ⟨b1, g1⟩ : ∃ z, z = h0.size := ⟨_, rfl⟩
  rw [← g1] at A1 D1 st1
  have lo1 : h0.size ≤ b1 := Nat.le_of_eq g1.symm
  have ge1 : Z.heap.size ≤ b1 := Nat.le_trans O0.2.1 lo1
  have R1 := CHr.ext (EL := EL) E1 CR0.1
  have sf1 := Safe.ext E1 CR0.1 (Safe.new lo1)
  have CR1 := CR0.trans R1
  have hk1 := Nat.le_trans hk0 R1.2.1
  have F1_value : Fld Z h1 b1 "java/lang/String" "value" "[B" .null := D1 (Or.inr (hw _ (List.mem_of_getElem? (i := 24) rfl))) (ty := (.array .byte)) (by decide)
  have F1_coder : Fld Z h1 b1 "java/lang/String" "coder" "B" (.int (0 : Int32)) := D1 (Or.inr (hw _ (List.mem_of_getElem? (i := 25) rfl))) (ty := .byte) (by decide)
  obtain ⟨T2, h2, k2, X2, e2, E2, A2, st2⟩ := newP X1 hx hZ (hw _ (List.mem_of_getElem? (i := 11) rfl)) e1 (g := (mkF m 25 #[.val (.int (1 : Int32)), .val (.int ja), .val (.int jb), .val (.int jc), .val (.int jd)] [(.int (1 : Int32)), (.ref b1), (.ref b1)])) rfl (hb hby d2_25) rfl (by decide) (cap := 1) (by decide) (by decide) (by decide) (by decide)
  obtain ⟨b2, g2⟩ : ∃ z, z = h1.size := ⟨_, rfl⟩
  rw [← g2] at A2 st2
  have lo2 : h1.size ≤ b2 := Nat.le_of_eq g2.symm
  have ge2 : Z.heap.size ≤ b2 := Nat.le_trans (O0.ext E1).2.1 lo2
  have R2 := CHr.ext (EL := EL) E2 CR1.1
  have sf2 := Safe.ext E2 CR1.1 (Safe.new lo2)
  have CR2 := CR1.trans R2
  have hk2 := Nat.le_trans hk1 R2.2.1
  have V2 := Arv.new A2 (by decide)
  have V2a : Arv Z h2 b2 k2 .char (1 : Int32) [(.int (0 : Int32))] (.int (0 : Int32)) := V2.pad (pad_rep [] (.int (0 : Int32)) 1)
  obtain ⟨cl3, Ar3, q3, S3, M3, H3, G3⟩ := id V2a
  have hin3 : ¬ ((0 : Int32) < 0 ∨ cl3.slots.size ≤ ((0 : Int32)).toNatClampNeg) := inb_of S3 ⟨by decide, by decide⟩
  obtain ⟨T3, h3, X3, e3, W3, st3⟩ := stC X2 hx hZ e2 Ar3 (j := (0 : Int32)) hin3 (g := (mkF m 30 #[.val (.int (1 : Int32)), .val (.int ja), .val (.int jb), .val (.int jc), .val (.int jd)] [(.int ja), (.int (0 : Int32)), (.ref b2), (.ref b2), (.ref b1), (.ref b1)])) rfl rfl (hb hby d2_30)
  have V3 := Arv.set Ar3 q3 S3 M3 H3 G3 (fits_nar_char _) W3 0 rfl (Nat.le_of_ble_eq_true rfl)
  have N3 := Fr.snoc X3 N0 ge2
  have R3 := CHr.wr W3 sf2 CR2.1
  have CR3 := CR2.trans R3
  have hk3 := Nat.le_trans hk2 R3.2.1
  rw [hBja.nar] at V3
  have V3a : Arv Z h3 b2 k2 .char (1 : Int32) [(.int ja)] (.int (0 : Int32)) := V3
  have c4 : Steps p.tables e below S0 (T3.setTop (mkF m 31 #[.val (.int (1 : Int32)), .val (.int ja), .val (.int jb), .val (.int jc), .val (.int jd)] [(.ref b2), (.ref b1), (.ref b1)])) := c0.trans (by
    refine XS.iloadN X0.here hx rfl (hb hby d2_0) rfl ?_
    refine XS.ifYes X0.here hx rfl (pc0 := 1) (pc' := 15) rfl (hb hby d2_1) rfl ((if0 _ _).trans (feq (by decide : ¬ ((1 : Int32) = (0 : Int32)))).2) (by decide) (by decide) ?_
    refine XS.iloadN X0.here hx rfl (hb hby d2_15) rfl ?_
    refine XS.iconst X0.here hx rfl (hb hby d2_16) ?_
    refine XS.icmpNo X0.here hx rfl (hb hby d2_17) rfl (teq (by decide : (1 : Int32) = (1 : Int32))).2 ?_
    refine st1 _ ?_
    show Steps p.tables e below (T1.setTop (mkF m 23 #[.val (.int (1 : Int32)), .val (.int ja), .val (.int jb), .val (.int jc), .val (.int jd)] [(.ref b1)])) _
    refine XS.dup X1.here hx rfl (hb hby d2_23) rfl rfl ?_
    refine XS.iconst X1.here hx rfl (hb hby d2_24) ?_
    refine st2 _ ?_
    refine XS.dup X2.here hx rfl (hb hby d2_27) rfl rfl ?_
    refine XS.iconst X2.here hx rfl (hb hby d2_28) ?_
    refine XS.iloadN X2.here hx rfl (hb hby d2_29) rfl ?_
    refine st3 _ ?_
    show Steps p.tables e below (T3.setTop (mkF m 31 #[.val (.int (1 : Int32)), .val (.int ja), .val (.int jb), .val (.int jc), .val (.int jd)] [(.ref b2), (.ref b1), (.ref b1)])) _
    exact Steps.refl _)
  obtain ⟨v5, T5, L5, X5, ⟨rfl, N5', K5, E5, Cd5, t5, kb5, gt5, lo5, ne5, V5, Kb5⟩, c5'⟩ := own_spec X3 hx hml hZ hown rfl (hw _ (List.mem_of_getElem? (i := 12) rfl)) (hw _ (List.mem_of_getElem? (i := 13) rfl)) (hw _ (List.mem_of_getElem? (i := 14) rfl)) (by decide) (Q := StrChars.Road.QV Z b1 (1 : Int32) (([ja] : List Int32).map (fun c : Int32 => c.toInt8.toInt32)) h3 Z.heap.size) (kc := 1) (ks := 1) (h := h3) (W := 1) (b := b1) (argsL := [(.ref b2)]) (rest := [(.ref b1)]) (StrChars.Road.backV (s := (s.setVm s.vm)) (R := ({ frames := 7, cells := 6, slots := 40, locals := 110 } : Room)) (W := 1) hZ (own_wi hw) (kI := 4) (hw _ (List.mem_of_getElem? (i := 9) rfl)) (cs := [ja]) (bs := ([ja] : List Int32).map (fun c : Int32 => c.toInt8.toInt32)) (n := 1) ge1 (((O0.ext E1).ext E2).wr W3 ge2).2.1 ((A1.ext E2).wr W3) ((F1_value.ext E2).other W3 (Or.inl (Nat.ne_of_lt (Nat.lt_of_lt_of_le A1.lt lo2)))) ((F1_coder.ext E2).other W3 (Or.inl (Nat.ne_of_lt (Nat.lt_of_lt_of_le A1.lt lo2)))) V3a (SC.ext (((O0.ext E1).ext E2).wr W3 ge2).2) hz rfl rfl (by decide) (by decide) (fun c hc => ((own_cons hBja own_nil) c hc).rng) rfl (by decide) (by decide)) c4 (lenOf pd_22 rfl) rfl (hb hby d2_31) e3
  have N5 := Fr.app N3 N5'
  have R5 := CHr.keep K5 (sfS ((R2.trans R3).safe A1.lt sf1) sf0) CR3.1
  have CR5 := CR3.trans R5
  have hk5 := Nat.le_trans hk3 R5.2.1
  have c5 : Steps p.tables e below S0 (T5.setTop (mkF m 34 #[.val (.int (1 : Int32)), .val (.int ja), .val (.int jb), .val (.int jc), .val (.int jd)] [(.ref b1)])) := c5'
  refine ⟨T5, s.vm, _, (some (.ref b1)), _, _, _, X5, by decide, by decide, (fun q => by cases q), N5, hS0, hk5, hZ, CR5, ?_, fun fs hr => ?_⟩
  · skip
    exact ⟨b1, t5, kb5, rfl, (((((Keep.refl h0 []).ext E1).ext E2).wr W3 (Or.inr (Nat.le_trans ((Keep.refl h0 []).ext E1).1 lo2))).trans K5 (allS (Or.inr (Nat.le_trans (Keep.refl h0 []).1 lo1)) all0)), (Nat.le_trans (Keep.refl h0 []).1 lo1), E5, V5, Cd5, Kb5⟩
  · exact own_retR X5 hx c5 hret rfl rfl (hb hby d2_34) hr
set_option maxRecDepth 65536 in
set_option maxHeartbeats 40000000 in
theorem rmMk2 (l : Launch) (Z : State) (a0 : Array Value) (hw : ∀ d ∈ tables_1, d.before a0 Z = true) (hEL : EW Z a0 EL) (ja jb jc jd : Int32) (z : Int32) (fm : Value) (h0 : Heap) (O0 : Old Z Z.heap.size h0) (hBja : own_B ja) (hBjb : own_B jb) (hBjc : own_B jc) (hBjd : own_B jd) (SC : Sta Z Z.heap "java/lang/String" "COMPACT_STRINGS" "Z" (.int z)) (hz : ¬ z = 0) (SF : Sta Z Z.heap "jdk/internal/util/Preconditions" "SIOOBE_FORMATTER" "Ljava/util/function/BiFunction;" fm) (hfm : fm.isRef = true) :
    own_WC l Z EL (⟨"com/example/attestor/attestor/interpolation/MessageTemplateEscapePinLaw", "make", "(ICCCC)Ljava/lang/String;"⟩ : MethodName) method_5_code 5 (some (.object "java/lang/String")) ({ frames := 7, cells := 6, slots := 40, locals := 110 } : Room) #[(.int (2 : Int32)), (.int ja), (.int jb), (.int jc), (.int jd)] h0 [] (fun v h => (∃ (x t : Addr) (kb : ClassId), v = some (.ref x) ∧ Keep h0 h [] ∧ h0.size ≤ x ∧ Exa Z h x "java/lang/String" ∧ Fld Z h x "java/lang/String" "value" "[B" (.ref t) ∧ Fld Z h x "java/lang/String" "coder" "B" (.int (0 : Int32)) ∧ Arv Z h t kb .byte (Int32.ofNat ([ja, jb] : List Int32).length) ((([ja, jb] : List Int32).map (fun c : Int32 => c.toInt8.toInt32)).map Value.int) (.int (0 : Int32)))) := by
  refine own_wc (plainFor_of_name (by first | (simp [plainName, overriddenIn]; done) | decide +kernel)) hEL ?_
  intro p e s m below meth c s₁ S0 X0 hx hby hml hret hnm hown hZ e0 hS0 CR0 hsf cc
  have N0 := Fr.nil Z.heap.size
  have hk0 : 0 ≤ h0.size := Nat.zero_le _
  have hstr : ∀ d ∈ Bundle.stringAtoms, d.before a0 Z = true := fun d hd => hw d (own_strA d hd)
  have c0 : Steps p.tables e below S0 (s₁.setTop (mkF m 0 #[.val (.int (2 : Int32)), .val (.int ja), .val (.int jb), .val (.int jc), .val (.int jd)] [])) := cc.trans (XT.entry rfl)
  obtain ⟨T1, h1, X1, e1, E1, A1, D1, -, st1⟩ := newO X0 hx hZ hown (hw _ (List.mem_of_getElem? (i := 8) rfl)) (hw _ (List.mem_of_getElem? (i := 9) rfl)) (hw _ (List.mem_of_getElem? (i := 10) rfl)) e0 (g := (mkF m 40 #[.val (.int (2 : Int32)), .val (.int ja), .val (.int jb), .val (.int jc), .val (.int jd)] [])) rfl (hb hby d2_40) (by decide) (by decide)
  obtain ⟨b1, g1⟩ : ∃ z, z = h0.size := ⟨_, rfl⟩
  rw [← g1] at A1 D1 st1
  have lo1 : h0.size ≤ b1 := Nat.le_of_eq g1.symm
  have ge1 : Z.heap.size ≤ b1 := Nat.le_trans O0.2.1 lo1
  have R1 := CHr.ext (EL := EL) E1 CR0.1
  have sf1 := Safe.ext E1 CR0.1 (Safe.new lo1)
  have CR1 := CR0.trans R1
  have hk1 := Nat.le_trans hk0 R1.2.1
  have F1_value : Fld Z h1 b1 "java/lang/String" "value" "[B" .null := D1 (Or.inr (hw _ (List.mem_of_getElem? (i := 24) rfl))) (ty := (.array .byte)) (by decide)
  have F1_coder : Fld Z h1 b1 "java/lang/String" "coder" "B" (.int (0 : Int32)) := D1 (Or.inr (hw _ (List.mem_of_getElem? (i := 25) rfl))) (ty := .byte) (by decide)
  obtain ⟨T2, h2, k2, X2, e2, E2, A2, st2⟩ := newP X1 hx hZ (hw _ (List.mem_of_getElem? (i := 11) rfl)) e1 (g := (mkF m 45 #[.val (.int (2 : Int32)), .val (.int ja), .val (.int jb), .val (.int jc), .val (.int jd)] [(.int (2 : Int32)), (.ref b1), (.ref b1)])) rfl (hb hby d2_45) rfl (by decide) (cap := 2) (by decide) (by decide) (by decide) (by decide)
  obtain ⟨b2, g2⟩ : ∃ z, z = h1.size := ⟨_, rfl⟩
  rw [← g2] at A2 st2
  have lo2 : h1.size ≤ b2 := Nat.le_of_eq g2.symm
  have ge2 : Z.heap.size ≤ b2 := Nat.le_trans (O0.ext E1).2.1 lo2
  have R2 := CHr.ext (EL := EL) E2 CR1.1
  have sf2 := Safe.ext E2 CR1.1 (Safe.new lo2)
  have CR2 := CR1.trans R2
  have hk2 := Nat.le_trans hk1 R2.2.1
  have V2 := Arv.new A2 (by decide)
  have V2a : Arv Z h2 b2 k2 .char (2 : Int32) [(.int (0 : Int32)), (.int (0 : Int32))] (.int (0 : Int32)) := V2.pad (pad_rep [] (.int (0 : Int32)) 2)
  obtain ⟨cl3, Ar3, q3, S3, M3, H3, G3⟩ := id V2a
  have hin3 : ¬ ((0 : Int32) < 0 ∨ cl3.slots.size ≤ ((0 : Int32)).toNatClampNeg) := inb_of S3 ⟨by decide, by decide⟩
  obtain ⟨T3, h3, X3, e3, W3, st3⟩ := stC X2 hx hZ e2 Ar3 (j := (0 : Int32)) hin3 (g := (mkF m 50 #[.val (.int (2 : Int32)), .val (.int ja), .val (.int jb), .val (.int jc), .val (.int jd)] [(.int ja), (.int (0 : Int32)), (.ref b2), (.ref b2), (.ref b1), (.ref b1)])) rfl rfl (hb hby d2_50)
  have V3 := Arv.set Ar3 q3 S3 M3 H3 G3 (fits_nar_char _) W3 0 rfl (Nat.le_of_ble_eq_true rfl)
  have N3 := Fr.snoc X3 N0 ge2
  have R3 := CHr.wr W3 sf2 CR2.1
  have CR3 := CR2.trans R3
  have hk3 := Nat.le_trans hk2 R3.2.1
  rw [hBja.nar] at V3
  have V3a : Arv Z h3 b2 k2 .char (2 : Int32) [(.int ja), (.int (0 : Int32))] (.int (0 : Int32)) := V3
  obtain ⟨cl4, Ar4, q4, S4, M4, H4, G4⟩ := id V3a
  have hin4 : ¬ ((1 : Int32) < 0 ∨ cl4.slots.size ≤ ((1 : Int32)).toNatClampNeg) := inb_of S4 ⟨by decide, by decide⟩
  obtain ⟨T4, h4, X4, e4, W4, st4⟩ := stC X3 hx hZ e3 Ar4 (j := (1 : Int32)) hin4 (g := (mkF m 54 #[.val (.int (2 : Int32)), .val (.int ja), .val (.int jb), .val (.int jc), .val (.int jd)] [(.int jb), (.int (1 : Int32)), (.ref b2), (.ref b2), (.ref b1), (.ref b1)])) rfl rfl (hb hby d2_54)
  have V4 := Arv.set Ar4 q4 S4 M4 H4 G4 (fits_nar_char _) W4 1 rfl (Nat.le_of_ble_eq_true rfl)
  have N4 := Fr.snoc X4 N3 ge2
  have R4 := CHr.wr W4 (R3.safe V2.lt sf2) CR3.1
  have CR4 := CR3.trans R4
  have hk4 := Nat.le_trans hk3 R4.2.1
  rw [hBjb.nar] at V4
  have V4a : Arv Z h4 b2 k2 .char (2 : Int32) [(.int ja), (.int jb)] (.int (0 : Int32)) := V4
  have c5 : Steps p.tables e below S0 (T4.setTop (mkF m 55 #[.val (.int (2 : Int32)), .val (.int ja), .val (.int jb), .val (.int jc), .val (.int jd)] [(.ref b2), (.ref b1), (.ref b1)])) := c0.trans (by
    refine XS.iloadN X0.here hx rfl (hb hby d2_0) rfl ?_
    refine XS.ifYes X0.here hx rfl (pc0 := 1) (pc' := 15) rfl (hb hby d2_1) rfl ((if0 _ _).trans (feq (by decide : ¬ ((2 : Int32) = (0 : Int32)))).2) (by decide) (by decide) ?_
    refine XS.iloadN X0.here hx rfl (hb hby d2_15) rfl ?_
    refine XS.iconst X0.here hx rfl (hb hby d2_16) ?_
    refine XS.icmpYes X0.here hx rfl (pc0 := 17) (pc' := 35) rfl (hb hby d2_17) rfl (feq (by decide : ¬ ((2 : Int32) = (1 : Int32)))).2 (by decide) (by decide) ?_
    refine XS.iloadN X0.here hx rfl (hb hby d2_35) rfl ?_
    refine XS.iconst X0.here hx rfl (hb hby d2_36) ?_
    refine XS.icmpNo X0.here hx rfl (hb hby d2_37) rfl (teq (by decide : (2 : Int32) = (2 : Int32))).2 ?_
    refine st1 _ ?_
    show Steps p.tables e below (T1.setTop (mkF m 43 #[.val (.int (2 : Int32)), .val (.int ja), .val (.int jb), .val (.int jc), .val (.int jd)] [(.ref b1)])) _
    refine XS.dup X1.here hx rfl (hb hby d2_43) rfl rfl ?_
    refine XS.iconst X1.here hx rfl (hb hby d2_44) ?_
    refine st2 _ ?_
    refine XS.dup X2.here hx rfl (hb hby d2_47) rfl rfl ?_
    refine XS.iconst X2.here hx rfl (hb hby d2_48) ?_
    refine XS.iloadN X2.here hx rfl (hb hby d2_49) rfl ?_
    refine st3 _ ?_
    show Steps p.tables e below (T3.setTop (mkF m 51 #[.val (.int (2 : Int32)), .val (.int ja), .val (.int jb), .val (.int jc), .val (.int jd)] [(.ref b2), (.ref b1), (.ref b1)])) _
    refine XS.dup X3.here hx rfl (hb hby d2_51) rfl rfl ?_
    refine XS.iconst X3.here hx rfl (hb hby d2_52) ?_
    refine XS.iloadN X3.here hx rfl (hb hby d2_53) rfl ?_
    refine st4 _ ?_
    show Steps p.tables e below (T4.setTop (mkF m 55 #[.val (.int (2 : Int32)), .val (.int ja), .val (.int jb), .val (.int jc), .val (.int jd)] [(.ref b2), (.ref b1), (.ref b1)])) _
    exact Steps.refl _)
  obtain ⟨v6, T6, L6, X6, ⟨rfl, N6', K6, E6, Cd6, t6, kb6, gt6, lo6, ne6, V6, Kb6⟩, c6'⟩ := own_spec X4 hx hml hZ hown rfl (hw _ (List.mem_of_getElem? (i := 12) rfl)) (hw _ (List.mem_of_getElem? (i := 13) rfl)) (hw _ (List.mem_of_getElem? (i := 14) rfl)) (by decide) (Q := StrChars.Road.QV Z b1 (2 : Int32) (([ja, jb] : List Int32).map (fun c : Int32 => c.toInt8.toInt32)) h4 Z.heap.size) (kc := 1) (ks := 2) (h := h4) (W := 1) (b := b1) (argsL := [(.ref b2)]) (rest := [(.ref b1)]) (StrChars.Road.backV (s := (s.setVm s.vm)) (R := ({ frames := 7, cells := 6, slots := 40, locals := 110 } : Room)) (W := 1) hZ (own_wi hw) (kI := 4) (hw _ (List.mem_of_getElem? (i := 9) rfl)) (cs := [ja, jb]) (bs := ([ja, jb] : List Int32).map (fun c : Int32 => c.toInt8.toInt32)) (n := 2) ge1 ((((O0.ext E1).ext E2).wr W3 ge2).wr W4 ge2).2.1 (((A1.ext E2).wr W3).wr W4) (((F1_value.ext E2).other W3 (Or.inl (Nat.ne_of_lt (Nat.lt_of_lt_of_le A1.lt lo2)))).other W4 (Or.inl (Nat.ne_of_lt (Nat.lt_of_lt_of_le A1.lt lo2)))) (((F1_coder.ext E2).other W3 (Or.inl (Nat.ne_of_lt (Nat.lt_of_lt_of_le A1.lt lo2)))).other W4 (Or.inl (Nat.ne_of_lt (Nat.lt_of_lt_of_le A1.lt lo2)))) V4a (SC.ext ((((O0.ext E1).ext E2).wr W3 ge2).wr W4 ge2).2) hz rfl rfl (by decide) (by decide) (fun c hc => ((own_cons hBja (own_cons hBjb own_nil)) c hc).rng) rfl (by decide) (by decide)) c5 (lenOf pd_22 rfl) rfl (hb hby d2_55) e4
  have N6 := Fr.app N4 N6'
  have R6 := CHr.keep K6 (sfS (((R2.trans R3).trans R4).safe A1.lt sf1) sf0) CR4.1
  have CR6 := CR4.trans R6
  have hk6 := Nat.le_trans hk4 R6.2.1
  have c6 : Steps p.tables e below S0 (T6.setTop (mkF m 58 #[.val (.int (2 : Int32)), .val (.int ja), .val (.int jb), .val (.int jc), .val (.int jd)] [(.ref b1)])) := c6'
  refine ⟨T6, s.vm, _, (some (.ref b1)), _, _, _, X6, by decide, by decide, (fun q => by cases q), N6, hS0, hk6, hZ, CR6, ?_, fun fs hr => ?_⟩
  · skip
    exact ⟨b1, t6, kb6, rfl, ((((((Keep.refl h0 []).ext E1).ext E2).wr W3 (Or.inr (Nat.le_trans ((Keep.refl h0 []).ext E1).1 lo2))).wr W4 (Or.inr (Nat.le_trans ((Keep.refl h0 []).ext E1).1 lo2))).trans K6 (allS (Or.inr (Nat.le_trans (Keep.refl h0 []).1 lo1)) all0)), (Nat.le_trans (Keep.refl h0 []).1 lo1), E6, V6, Cd6, Kb6⟩
  · exact own_retR X6 hx c6 hret rfl rfl (hb hby d2_58) hr
set_option maxRecDepth 65536 in
set_option maxHeartbeats 40000000 in
theorem rmMk3 (l : Launch) (Z : State) (a0 : Array Value) (hw : ∀ d ∈ tables_1, d.before a0 Z = true) (hEL : EW Z a0 EL) (ja jb jc jd : Int32) (z : Int32) (fm : Value) (h0 : Heap) (O0 : Old Z Z.heap.size h0) (hBja : own_B ja) (hBjb : own_B jb) (hBjc : own_B jc) (hBjd : own_B jd) (SC : Sta Z Z.heap "java/lang/String" "COMPACT_STRINGS" "Z" (.int z)) (hz : ¬ z = 0) (SF : Sta Z Z.heap "jdk/internal/util/Preconditions" "SIOOBE_FORMATTER" "Ljava/util/function/BiFunction;" fm) (hfm : fm.isRef = true) :
    own_WC l Z EL (⟨"com/example/attestor/attestor/interpolation/MessageTemplateEscapePinLaw", "make", "(ICCCC)Ljava/lang/String;"⟩ : MethodName) method_5_code 5 (some (.object "java/lang/String")) ({ frames := 7, cells := 6, slots := 40, locals := 110 } : Room) #[(.int (3 : Int32)), (.int ja), (.int jb), (.int jc), (.int jd)] h0 [] (fun v h => (∃ (x t : Addr) (kb : ClassId), v = some (.ref x) ∧ Keep h0 h [] ∧ h0.size ≤ x ∧ Exa Z h x "java/lang/String" ∧ Fld Z h x "java/lang/String" "value" "[B" (.ref t) ∧ Fld Z h x "java/lang/String" "coder" "B" (.int (0 : Int32)) ∧ Arv Z h t kb .byte (Int32.ofNat ([ja, jb, jc] : List Int32).length) ((([ja, jb, jc] : List Int32).map (fun c : Int32 => c.toInt8.toInt32)).map Value.int) (.int (0 : Int32)))) := by
  refine own_wc (plainFor_of_name (by first | (simp [plainName, overriddenIn]; done) | decide +kernel)) hEL ?_
  intro p e s m below meth c s₁ S0 X0 hx hby hml hret hnm hown hZ e0 hS0 CR0 hsf cc
  have N0 := Fr.nil Z.heap.size
  have hk0 : 0 ≤ h0.size := Nat.zero_le _
  have hstr : ∀ d ∈ Bundle.stringAtoms, d.before a0 Z = true := fun d hd => hw d (own_strA d hd)
  have c0 : Steps p.tables e below S0 (s₁.setTop (mkF m 0 #[.val (.int (3 : Int32)), .val (.int ja), .val (.int jb), .val (.int jc), .val (.int jd)] [])) := cc.trans (XT.entry rfl)
  obtain ⟨T1, h1, X1, e1, E1, A1, D1, -, st1⟩ := newO X0 hx hZ hown (hw _ (List.mem_of_getElem? (i := 8) rfl)) (hw _ (List.mem_of_getElem? (i := 9) rfl)) (hw _ (List.mem_of_getElem? (i := 10) rfl)) e0 (g := (mkF m 64 #[.val (.int (3 : Int32)), .val (.int ja), .val (.int jb), .val (.int jc), .val (.int jd)] [])) rfl (hb hby d2_64) (by decide) (by decide)
  obtain ⟨b1, g1⟩ : ∃ z, z = h0.size := ⟨_, rfl⟩
  rw [← g1] at A1 D1 st1
  have lo1 : h0.size ≤ b1 := Nat.le_of_eq g1.symm
  have ge1 : Z.heap.size ≤ b1 := Nat.le_trans O0.2.1 lo1
  have R1 := CHr.ext (EL := EL) E1 CR0.1
  have sf1 := Safe.ext E1 CR0.1 (Safe.new lo1)
  have CR1 := CR0.trans R1
  have hk1 := Nat.le_trans hk0 R1.2.1
  have F1_value : Fld Z h1 b1 "java/lang/String" "value" "[B" .null := D1 (Or.inr (hw _ (List.mem_of_getElem? (i := 24) rfl))) (ty := (.array .byte)) (by decide)
  have F1_coder : Fld Z h1 b1 "java/lang/String" "coder" "B" (.int (0 : Int32)) := D1 (Or.inr (hw _ (List.mem_of_getElem? (i := 25) rfl))) (ty := .byte) (by decide)
  obtain ⟨T2, h2, k2, X2, e2, E2, A2, st2⟩ := newP X1 hx hZ (hw _ (List.mem_of_getElem? (i := 11) rfl)) e1 (g := (mkF m 69 #[.val (.int (3 : Int32)), .val (.int ja), .val (.int jb), .val (.int jc), .val (.int jd)] [(.int (3 : Int32)), (.ref b1), (.ref b1)])) rfl (hb hby d2_69) rfl (by decide) (cap := 3) (by decide) (by decide) (by decide) (by decide)
  obtain ⟨b2, g2⟩ : ∃ z, z = h1.size := ⟨_, rfl⟩
  rw [← g2] at A2 st2
  have lo2 : h1.size ≤ b2 := Nat.le_of_eq g2.symm
  have ge2 : Z.heap.size ≤ b2 := Nat.le_trans (O0.ext E1).2.1 lo2
  have R2 := CHr.ext (EL := EL) E2 CR1.1
  have sf2 := Safe.ext E2 CR1.1 (Safe.new lo2)
  have CR2 := CR1.trans R2
  have hk2 := Nat.le_trans hk1 R2.2.1
  have V2 := Arv.new A2 (by decide)
  have V2a : Arv Z h2 b2 k2 .char (3 : Int32) [(.int (0 : Int32)), (.int (0 : Int32)), (.int (0 : Int32))] (.int (0 : Int32)) := V2.pad (pad_rep [] (.int (0 : Int32)) 3)
  obtain ⟨cl3, Ar3, q3, S3, M3, H3, G3⟩ := id V2a
  have hin3 : ¬ ((0 : Int32) < 0 ∨ cl3.slots.size ≤ ((0 : Int32)).toNatClampNeg) := inb_of S3 ⟨by decide, by decide⟩
  obtain ⟨T3, h3, X3, e3, W3, st3⟩ := stC X2 hx hZ e2 Ar3 (j := (0 : Int32)) hin3 (g := (mkF m 74 #[.val (.int (3 : Int32)), .val (.int ja), .val (.int jb), .val (.int jc), .val (.int jd)] [(.int ja), (.int (0 : Int32)), (.ref b2), (.ref b2), (.ref b1), (.ref b1)])) rfl rfl (hb hby d2_74)
  have V3 := Arv.set Ar3 q3 S3 M3 H3 G3 (fits_nar_char _) W3 0 rfl (Nat.le_of_ble_eq_true rfl)
  have N3 := Fr.snoc X3 N0 ge2
  have R3 := CHr.wr W3 sf2 CR2.1
  have CR3 := CR2.trans R3
  have hk3 := Nat.le_trans hk2 R3.2.1
  rw [hBja.nar] at V3
  have V3a : Arv Z h3 b2 k2 .char (3 : Int32) [(.int ja), (.int (0 : Int32)), (.int (0 : Int32))] (.int (0 : Int32)) := V3
  obtain ⟨cl4, Ar4, q4, S4, M4, H4, G4⟩ := id V3a
  have hin4 : ¬ ((1 : Int32) < 0 ∨ cl4.slots.size ≤ ((1 : Int32)).toNatClampNeg) := inb_of S4 ⟨by decide, by decide⟩
  obtain ⟨T4, h4, X4, e4, W4, st4⟩ := stC X3 hx hZ e3 Ar4 (j := (1 : Int32)) hin4 (g := (mkF m 78 #[.val (.int (3 : Int32)), .val (.int ja), .val (.int jb), .val (.int jc), .val (.int jd)] [(.int jb), (.int (1 : Int32)), (.ref b2), (.ref b2), (.ref b1), (.ref b1)])) rfl rfl (hb hby d2_78)
  have V4 := Arv.set Ar4 q4 S4 M4 H4 G4 (fits_nar_char _) W4 1 rfl (Nat.le_of_ble_eq_true rfl)
  have N4 := Fr.snoc X4 N3 ge2
  have R4 := CHr.wr W4 (R3.safe V2.lt sf2) CR3.1
  have CR4 := CR3.trans R4
  have hk4 := Nat.le_trans hk3 R4.2.1
  rw [hBjb.nar] at V4
  have V4a : Arv Z h4 b2 k2 .char (3 : Int32) [(.int ja), (.int jb), (.int (0 : Int32))] (.int (0 : Int32)) := V4
  obtain ⟨cl5, Ar5, q5, S5, M5, H5, G5⟩ := id V4a
  have hin5 : ¬ ((2 : Int32) < 0 ∨ cl5.slots.size ≤ ((2 : Int32)).toNatClampNeg) := inb_of S5 ⟨by decide, by decide⟩
  obtain ⟨T5, h5, X5, e5, W5, st5⟩ := stC X4 hx hZ e4 Ar5 (j := (2 : Int32)) hin5 (g := (mkF m 82 #[.val (.int (3 : Int32)), .val (.int ja), .val (.int jb), .val (.int jc), .val (.int jd)] [(.int jc), (.int (2 : Int32)), (.ref b2), (.ref b2), (.ref b1), (.ref b1)])) rfl rfl (hb hby d2_82)
  have V5 := Arv.set Ar5 q5 S5 M5 H5 G5 (fits_nar_char _) W5 2 rfl (Nat.le_of_ble_eq_true rfl)
  have N5 := Fr.snoc X5 N4 ge2
  have R5 := CHr.wr W5 ((R3.trans R4).safe V2.lt sf2) CR4.1
  have CR5 := CR4.trans R5
  have hk5 := Nat.le_trans hk4 R5.2.1
  rw [hBjc.nar] at V5
  have V5a : Arv Z h5 b2 k2 .char (3 : Int32) [(.int ja), (.int jb), (.int jc)] (.int (0 : Int32)) := V5
  have c6 : Steps p.tables e below S0 (T5.setTop (mkF m 83 #[.val (.int (3 : Int32)), .val (.int ja), .val (.int jb), .val (.int jc), .val (.int jd)] [(.ref b2), (.ref b1), (.ref b1)])) := c0.trans (by
    refine XS.iloadN X0.here hx rfl (hb hby d2_0) rfl ?_
    refine XS.ifYes X0.here hx rfl (pc0 := 1) (pc' := 15) rfl (hb hby d2_1) rfl ((if0 _ _).trans (feq (by decide : ¬ ((3 : Int32) = (0 : Int32)))).2) (by decide) (by decide) ?_
    refine XS.iloadN X0.here hx rfl (hb hby d2_15) rfl ?_
    refine XS.iconst X0.here hx rfl (hb hby d2_16) ?_
    refine XS.icmpYes X0.here hx rfl (pc0 := 17) (pc' := 35) rfl (hb hby d2_17) rfl (feq (by decide : ¬ ((3 : Int32) = (1 : Int32)))).2 (by decide) (by decide) ?_
    refine XS.iloadN X0.here hx rfl (hb hby d2_35) rfl ?_
    refine XS.iconst X0.here hx rfl (hb hby d2_36) ?_
    refine XS.icmpYes X0.here hx rfl (pc0 := 37) (pc' := 59) rfl (hb hby d2_37) rfl (feq (by decide : ¬ ((3 : Int32) = (2 : Int32)))).2 (by decide) (by decide) ?_
    refine XS.iloadN X0.here hx rfl (hb hby d2_59) rfl ?_
    show Steps p.tables e below (s₁.setTop (mkF m 60 #[.val (.int (3 : Int32)), .val (.int ja), .val (.int jb), .val (.int jc), .val (.int jd)] [(.int (3 : Int32))])) _
    refine XS.iconst X0.here hx rfl (hb hby d2_60) ?_
    refine XS.icmpNo X0.here hx rfl (hb hby d2_61) rfl (teq (by decide : (3 : Int32) = (3 : Int32))).2 ?_
    refine st1 _ ?_
    refine XS.dup X1.here hx rfl (hb hby d2_67) rfl rfl ?_
    refine XS.iconst X1.here hx rfl (hb hby d2_68) ?_
    refine st2 _ ?_
    show Steps p.tables e below (T2.setTop (mkF m 71 #[.val (.int (3 : Int32)), .val (.int ja), .val (.int jb), .val (.int jc), .val (.int jd)] [(.ref b2), (.ref b1), (.ref b1)])) _
    refine XS.dup X2.here hx rfl (hb hby d2_71) rfl rfl ?_
    refine XS.iconst X2.here hx rfl (hb hby d2_72) ?_
    refine XS.iloadN X2.here hx rfl (hb hby d2_73) rfl ?_
    refine st3 _ ?_
    show Steps p.tables e below (T3.setTop (mkF m 75 #[.val (.int (3 : Int32)), .val (.int ja), .val (.int jb), .val (.int jc), .val (.int jd)] [(.ref b2), (.ref b1), (.ref b1)])) _
    refine XS.dup X3.here hx rfl (hb hby d2_75) rfl rfl ?_
    refine XS.iconst X3.here hx rfl (hb hby d2_76) ?_
    refine XS.iloadN X3.here hx rfl (hb hby d2_77) rfl ?_
    refine st4 _ ?_
    show Steps p.tables e below (T4.setTop (mkF m 79 #[.val (.int (3 : Int32)), .val (.int ja), .val (.int jb), .val (.int jc), .val (.int jd)] [(.ref b2), (.ref b1), (.ref b1)])) _
    refine XS.dup X4.here hx rfl (hb hby d2_79) rfl rfl ?_
    refine XS.iconst X4.here hx rfl (hb hby d2_80) ?_
    refine XS.iloadN X4.here hx rfl (hb hby d2_81) rfl ?_
    refine st5 _ ?_
    show Steps p.tables e below (T5.setTop (mkF m 83 #[.val (.int (3 : Int32)), .val (.int ja), .val (.int jb), .val (.int jc), .val (.int jd)] [(.ref b2), (.ref b1), (.ref b1)])) _
    exact Steps.refl _)
  obtain ⟨v7, T7, L7, X7, ⟨rfl, N7', K7, E7, Cd7, t7, kb7, gt7, lo7, ne7, V7, Kb7⟩, c7'⟩ := own_spec X5 hx hml hZ hown rfl (hw _ (List.mem_of_getElem? (i := 12) rfl)) (hw _ (List.mem_of_getElem? (i := 13) rfl)) (hw _ (List.mem_of_getElem? (i := 14) rfl)) (by decide) (Q := StrChars.Road.QV Z b1 (3 : Int32) (([ja, jb, jc] : List Int32).map (fun c : Int32 => c.toInt8.toInt32)) h5 Z.heap.size) (kc := 1) (ks := 3) (h := h5) (W := 1) (b := b1) (argsL := [(.ref b2)]) (rest := [(.ref b1)]) (StrChars.Road.backV (s := (s.setVm s.vm)) (R := ({ frames := 7, cells := 6, slots := 40, locals := 110 } : Room)) (W := 1) hZ (own_wi hw) (kI := 4) (hw _ (List.mem_of_getElem? (i := 9) rfl)) (cs := [ja, jb, jc]) (bs := ([ja, jb, jc] : List Int32).map (fun c : Int32 => c.toInt8.toInt32)) (n := 3) ge1 (((((O0.ext E1).ext E2).wr W3 ge2).wr W4 ge2).wr W5 ge2).2.1 ((((A1.ext E2).wr W3).wr W4).wr W5) ((((F1_value.ext E2).other W3 (Or.inl (Nat.ne_of_lt (Nat.lt_of_lt_of_le A1.lt lo2)))).other W4 (Or.inl (Nat.ne_of_lt (Nat.lt_of_lt_of_le A1.lt lo2)))).other W5 (Or.inl (Nat.ne_of_lt (Nat.lt_of_lt_of_le A1.lt lo2)))) ((((F1_coder.ext E2).other W3 (Or.inl (Nat.ne_of_lt (Nat.lt_of_lt_of_le A1.lt lo2)))).other W4 (Or.inl (Nat.ne_of_lt (Nat.lt_of_lt_of_le A1.lt lo2)))).other W5 (Or.inl (Nat.ne_of_lt (Nat.lt_of_lt_of_le A1.lt lo2)))) V5a (SC.ext (((((O0.ext E1).ext E2).wr W3 ge2).wr W4 ge2).wr W5 ge2).2) hz rfl rfl (by decide) (by decide) (fun c hc => ((own_cons hBja (own_cons hBjb (own_cons hBjc own_nil))) c hc).rng) rfl (by decide) (by decide)) c6 (lenOf pd_22 rfl) rfl (hb hby d2_83) e5
  have N7 := Fr.app N5 N7'
  have R7 := CHr.keep K7 (sfS ((((R2.trans R3).trans R4).trans R5).safe A1.lt sf1) sf0) CR5.1
  have CR7 := CR5.trans R7
  have hk7 := Nat.le_trans hk5 R7.2.1
  have c7 : Steps p.tables e below S0 (T7.setTop (mkF m 86 #[.val (.int (3 : Int32)), .val (.int ja), .val (.int jb), .val (.int jc), .val (.int jd)] [(.ref b1)])) := c7'
  refine ⟨T7, s.vm, _, (some (.ref b1)), _, _, _, X7, by decide, by decide, (fun q => by cases q), N7, hS0, hk7, hZ, CR7, ?_, fun fs hr => ?_⟩
  · skip
    exact ⟨b1, t7, kb7, rfl, (((((((Keep.refl h0 []).ext E1).ext E2).wr W3 (Or.inr (Nat.le_trans ((Keep.refl h0 []).ext E1).1 lo2))).wr W4 (Or.inr (Nat.le_trans ((Keep.refl h0 []).ext E1).1 lo2))).wr W5 (Or.inr (Nat.le_trans ((Keep.refl h0 []).ext E1).1 lo2))).trans K7 (allS (Or.inr (Nat.le_trans (Keep.refl h0 []).1 lo1)) all0)), (Nat.le_trans (Keep.refl h0 []).1 lo1), E7, V7, Cd7, Kb7⟩
  · exact own_retR X7 hx c7 hret rfl rfl (hb hby d2_86) hr
set_option maxRecDepth 65536 in
set_option maxHeartbeats 40000000 in
theorem rmMk4 (l : Launch) (Z : State) (a0 : Array Value) (hw : ∀ d ∈ tables_1, d.before a0 Z = true) (hEL : EW Z a0 EL) (ja jb jc jd : Int32) (z : Int32) (fm : Value) (h0 : Heap) (O0 : Old Z Z.heap.size h0) (hBja : own_B ja) (hBjb : own_B jb) (hBjc : own_B jc) (hBjd : own_B jd) (SC : Sta Z Z.heap "java/lang/String" "COMPACT_STRINGS" "Z" (.int z)) (hz : ¬ z = 0) (SF : Sta Z Z.heap "jdk/internal/util/Preconditions" "SIOOBE_FORMATTER" "Ljava/util/function/BiFunction;" fm) (hfm : fm.isRef = true) :
    own_WC l Z EL (⟨"com/example/attestor/attestor/interpolation/MessageTemplateEscapePinLaw", "make", "(ICCCC)Ljava/lang/String;"⟩ : MethodName) method_5_code 5 (some (.object "java/lang/String")) ({ frames := 7, cells := 6, slots := 40, locals := 110 } : Room) #[(.int (4 : Int32)), (.int ja), (.int jb), (.int jc), (.int jd)] h0 [] (fun v h => (∃ (x t : Addr) (kb : ClassId), v = some (.ref x) ∧ Keep h0 h [] ∧ h0.size ≤ x ∧ Exa Z h x "java/lang/String" ∧ Fld Z h x "java/lang/String" "value" "[B" (.ref t) ∧ Fld Z h x "java/lang/String" "coder" "B" (.int (0 : Int32)) ∧ Arv Z h t kb .byte (Int32.ofNat ([ja, jb, jc, jd] : List Int32).length) ((([ja, jb, jc, jd] : List Int32).map (fun c : Int32 => c.toInt8.toInt32)).map Value.int) (.int (0 : Int32)))) := by
  refine own_wc (plainFor_of_name (by first | (simp [plainName, overriddenIn]; done) | decide +kernel)) hEL ?_
  intro p e s m below meth c s₁ S0 X0 hx hby hml hret hnm hown hZ e0 hS0 CR0 hsf cc
  have N0 := Fr.nil Z.heap.size
  have hk0 : 0 ≤ h0.size := Nat.zero_le _
  have hstr : ∀ d ∈ Bundle.stringAtoms, d.before a0 Z = true := fun d hd => hw d (own_strA d hd)
  have c0 : Steps p.tables e below S0 (s₁.setTop (mkF m 0 #[.val (.int (4 : Int32)), .val (.int ja), .val (.int jb), .val (.int jc), .val (.int jd)] [])) := cc.trans (XT.entry rfl)
  obtain ⟨T1, h1, X1, e1, E1, A1, D1, -, st1⟩ := newO X0 hx hZ hown (hw _ (List.mem_of_getElem? (i := 8) rfl)) (hw _ (List.mem_of_getElem? (i := 9) rfl)) (hw _ (List.mem_of_getElem? (i := 10) rfl)) e0 (g := (mkF m 87 #[.val (.int (4 : Int32)), .val (.int ja), .val (.int jb), .val (.int jc), .val (.int jd)] [])) rfl (hb hby d2_87) (by decide) (by decide)
  obtain ⟨b1, g1⟩ : ∃ z, z = h0.size := ⟨_, rfl⟩
  rw [← g1] at A1 D1 st1
  have lo1 : h0.size ≤ b1 := Nat.le_of_eq g1.symm
  have ge1 : Z.heap.size ≤ b1 := Nat.le_trans O0.2.1 lo1
  have R1 := CHr.ext (EL := EL) E1 CR0.1
  have sf1 := Safe.ext E1 CR0.1 (Safe.new lo1)
  have CR1 := CR0.trans R1
  have hk1 := Nat.le_trans hk0 R1.2.1
  have F1_value : Fld Z h1 b1 "java/lang/String" "value" "[B" .null := D1 (Or.inr (hw _ (List.mem_of_getElem? (i := 24) rfl))) (ty := (.array .byte)) (by decide)
  have F1_coder : Fld Z h1 b1 "java/lang/String" "coder" "B" (.int (0 : Int32)) := D1 (Or.inr (hw _ (List.mem_of_getElem? (i := 25) rfl))) (ty := .byte) (by decide)
  obtain ⟨T2, h2, k2, X2, e2, E2, A2, st2⟩ := newP X1 hx hZ (hw _ (List.mem_of_getElem? (i := 11) rfl)) e1 (g := (mkF m 92 #[.val (.int (4 : Int32)), .val (.int ja), .val (.int jb), .val (.int jc), .val (.int jd)] [(.int (4 : Int32)), (.ref b1), (.ref b1)])) rfl (hb hby d2_92) rfl (by decide) (cap := 4) (by decide) (by decide) (by decide) (by decide)
  obtain ⟨b2, g2⟩ : ∃ z, z = h1.size := ⟨_, rfl⟩
  rw [← g2] at A2 st2
  have lo2 : h1.size ≤ b2 := Nat.le_of_eq g2.symm
  have ge2 : Z.heap.size ≤ b2 := Nat.le_trans (O0.ext E1).2.1 lo2
  have R2 := CHr.ext (EL := EL) E2 CR1.1
  have sf2 := Safe.ext E2 CR1.1 (Safe.new lo2)
  have CR2 := CR1.trans R2
  have hk2 := Nat.le_trans hk1 R2.2.1
  have V2 := Arv.new A2 (by decide)
  have V2a : Arv Z h2 b2 k2 .char (4 : Int32) [(.int (0 : Int32)), (.int (0 : Int32)), (.int (0 : Int32)), (.int (0 : Int32))] (.int (0 : Int32)) := V2.pad (pad_rep [] (.int (0 : Int32)) 4)
  obtain ⟨cl3, Ar3, q3, S3, M3, H3, G3⟩ := id V2a
  have hin3 : ¬ ((0 : Int32) < 0 ∨ cl3.slots.size ≤ ((0 : Int32)).toNatClampNeg) := inb_of S3 ⟨by decide, by decide⟩
  obtain ⟨T3, h3, X3, e3, W3, st3⟩ := stC X2 hx hZ e2 Ar3 (j := (0 : Int32)) hin3 (g := (mkF m 97 #[.val (.int (4 : Int32)), .val (.int ja), .val (.int jb), .val (.int jc), .val (.int jd)] [(.int ja), (.int (0 : Int32)), (.ref b2), (.ref b2), (.ref b1), (.ref b1)])) rfl rfl (hb hby d2_97)
  have V3 := Arv.set Ar3 q3 S3 M3 H3 G3 (fits_nar_char _) W3 0 rfl (Nat.le_of_ble_eq_true rfl)
  have N3 := Fr.snoc X3 N0 ge2
  have R3 := CHr.wr W3 sf2 CR2.1
  have CR3 := CR2.trans R3
  have hk3 := Nat.le_trans hk2 R3.2.1
  rw [hBja.nar] at V3
  have V3a : Arv Z h3 b2 k2 .char (4 : Int32) [(.int ja), (.int (0 : Int32)), (.int (0 : Int32)), (.int (0 : Int32))] (.int (0 : Int32)) := V3
  obtain ⟨cl4, Ar4, q4, S4, M4, H4, G4⟩ := id V3a
  have hin4 : ¬ ((1 : Int32) < 0 ∨ cl4.slots.size ≤ ((1 : Int32)).toNatClampNeg) := inb_of S4 ⟨by decide, by decide⟩
  obtain ⟨T4, h4, X4, e4, W4, st4⟩ := stC X3 hx hZ e3 Ar4 (j := (1 : Int32)) hin4 (g := (mkF m 101 #[.val (.int (4 : Int32)), .val (.int ja), .val (.int jb), .val (.int jc), .val (.int jd)] [(.int jb), (.int (1 : Int32)), (.ref b2), (.ref b2), (.ref b1), (.ref b1)])) rfl rfl (hb hby d2_101)
  have V4 := Arv.set Ar4 q4 S4 M4 H4 G4 (fits_nar_char _) W4 1 rfl (Nat.le_of_ble_eq_true rfl)
  have N4 := Fr.snoc X4 N3 ge2
  have R4 := CHr.wr W4 (R3.safe V2.lt sf2) CR3.1
  have CR4 := CR3.trans R4
  have hk4 := Nat.le_trans hk3 R4.2.1
  rw [hBjb.nar] at V4
  have V4a : Arv Z h4 b2 k2 .char (4 : Int32) [(.int ja), (.int jb), (.int (0 : Int32)), (.int (0 : Int32))] (.int (0 : Int32)) := V4
  obtain ⟨cl5, Ar5, q5, S5, M5, H5, G5⟩ := id V4a
  have hin5 : ¬ ((2 : Int32) < 0 ∨ cl5.slots.size ≤ ((2 : Int32)).toNatClampNeg) := inb_of S5 ⟨by decide, by decide⟩
  obtain ⟨T5, h5, X5, e5, W5, st5⟩ := stC X4 hx hZ e4 Ar5 (j := (2 : Int32)) hin5 (g := (mkF m 105 #[.val (.int (4 : Int32)), .val (.int ja), .val (.int jb), .val (.int jc), .val (.int jd)] [(.int jc), (.int (2 : Int32)), (.ref b2), (.ref b2), (.ref b1), (.ref b1)])) rfl rfl (hb hby d2_105)
  have V5 := Arv.set Ar5 q5 S5 M5 H5 G5 (fits_nar_char _) W5 2 rfl (Nat.le_of_ble_eq_true rfl)
  have N5 := Fr.snoc X5 N4 ge2
  have R5 := CHr.wr W5 ((R3.trans R4).safe V2.lt sf2) CR4.1
  have CR5 := CR4.trans R5
  have hk5 := Nat.le_trans hk4 R5.2.1
  rw [hBjc.nar] at V5
  have V5a : Arv Z h5 b2 k2 .char (4 : Int32) [(.int ja), (.int jb), (.int jc), (.int (0 : Int32))] (.int (0 : Int32)) := V5
  obtain ⟨cl6, Ar6, q6, S6, M6, H6, G6⟩ := id V5a
  have hin6 : ¬ ((3 : Int32) < 0 ∨ cl6.slots.size ≤ ((3 : Int32)).toNatClampNeg) := inb_of S6 ⟨by decide, by decide⟩
  obtain ⟨T6, h6, X6, e6, W6, st6⟩ := stC X5 hx hZ e5 Ar6 (j := (3 : Int32)) hin6 (g := (mkF m 110 #[.val (.int (4 : Int32)), .val (.int ja), .val (.int jb), .val (.int jc), .val (.int jd)] [(.int jd), (.int (3 : Int32)), (.ref b2), (.ref b2), (.ref b1), (.ref b1)])) rfl rfl (hb hby d2_110)
  have V6 := Arv.set Ar6 q6 S6 M6 H6 G6 (fits_nar_char _) W6 3 rfl (Nat.le_of_ble_eq_true rfl)
  have N6 := Fr.snoc X6 N5 ge2
  have R6 := CHr.wr W6 (((R3.trans R4).trans R5).safe V2.lt sf2) CR5.1
  have CR6 := CR5.trans R6
  have hk6 := Nat.le_trans hk5 R6.2.1
  rw [hBjd.nar] at V6
  have V6a : Arv Z h6 b2 k2 .char (4 : Int32) [(.int ja), (.int jb), (.int jc), (.int jd)] (.int (0 : Int32)) := V6
  have c7 : Steps p.tables e below S0 (T6.setTop (mkF m 111 #[.val (.int (4 : Int32)), .val (.int ja), .val (.int jb), .val (.int jc), .val (.int jd)] [(.ref b2), (.ref b1), (.ref b1)])) := c0.trans (by
    refine XS.iloadN X0.here hx rfl (hb hby d2_0) rfl ?_
    refine XS.ifYes X0.here hx rfl (pc0 := 1) (pc' := 15) rfl (hb hby d2_1) rfl ((if0 _ _).trans (feq (by decide : ¬ ((4 : Int32) = (0 : Int32)))).2) (by decide) (by decide) ?_
    refine XS.iloadN X0.here hx rfl (hb hby d2_15) rfl ?_
    refine XS.iconst X0.here hx rfl (hb hby d2_16) ?_
    refine XS.icmpYes X0.here hx rfl (pc0 := 17) (pc' := 35) rfl (hb hby d2_17) rfl (feq (by decide : ¬ ((4 : Int32) = (1 : Int32)))).2 (by decide) (by decide) ?_
    refine XS.iloadN X0.here hx rfl (hb hby d2_35) rfl ?_
    refine XS.iconst X0.here hx rfl (hb hby d2_36) ?_
    refine XS.icmpYes X0.here hx rfl (pc0 := 37) (pc' := 59) rfl (hb hby d2_37) rfl (feq (by decide : ¬ ((4 : Int32) = (2 : Int32)))).2 (by decide) (by decide) ?_
    refine XS.iloadN X0.here hx rfl (hb hby d2_59) rfl ?_
    show Steps p.tables e below (s₁.setTop (mkF m 60 #[.val (.int (4 : Int32)), .val (.int ja), .val (.int jb), .val (.int jc), .val (.int jd)] [(.int (4 : Int32))])) _
    refine XS.iconst X0.here hx rfl (hb hby d2_60) ?_
    refine XS.icmpYes X0.here hx rfl (pc0 := 61) (pc' := 87) rfl (hb hby d2_61) rfl (feq (by decide : ¬ ((4 : Int32) = (3 : Int32)))).2 (by decide) (by decide) ?_
    refine st1 _ ?_
    refine XS.dup X1.here hx rfl (hb hby d2_90) rfl rfl ?_
    refine XS.iconst X1.here hx rfl (hb hby d2_91) ?_
    refine st2 _ ?_
    show Steps p.tables e below (T2.setTop (mkF m 94 #[.val (.int (4 : Int32)), .val (.int ja), .val (.int jb), .val (.int jc), .val (.int jd)] [(.ref b2), (.ref b1), (.ref b1)])) _
    refine XS.dup X2.here hx rfl (hb hby d2_94) rfl rfl ?_
    refine XS.iconst X2.here hx rfl (hb hby d2_95) ?_
    refine XS.iloadN X2.here hx rfl (hb hby d2_96) rfl ?_
    refine st3 _ ?_
    show Steps p.tables e below (T3.setTop (mkF m 98 #[.val (.int (4 : Int32)), .val (.int ja), .val (.int jb), .val (.int jc), .val (.int jd)] [(.ref b2), (.ref b1), (.ref b1)])) _
    refine XS.dup X3.here hx rfl (hb hby d2_98) rfl rfl ?_
    refine XS.iconst X3.here hx rfl (hb hby d2_99) ?_
    refine XS.iloadN X3.here hx rfl (hb hby d2_100) rfl ?_
    refine st4 _ ?_
    show Steps p.tables e below (T4.setTop (mkF m 102 #[.val (.int (4 : Int32)), .val (.int ja), .val (.int jb), .val (.int jc), .val (.int jd)] [(.ref b2), (.ref b1), (.ref b1)])) _
    refine XS.dup X4.here hx rfl (hb hby d2_102) rfl rfl ?_
    refine XS.iconst X4.here hx rfl (hb hby d2_103) ?_
    refine XS.iloadN X4.here hx rfl (hb hby d2_104) rfl ?_
    refine st5 _ ?_
    show Steps p.tables e below (T5.setTop (mkF m 106 #[.val (.int (4 : Int32)), .val (.int ja), .val (.int jb), .val (.int jc), .val (.int jd)] [(.ref b2), (.ref b1), (.ref b1)])) _
    refine XS.dup X5.here hx rfl (hb hby d2_106) rfl rfl ?_
    refine XS.iconst X5.here hx rfl (hb hby d2_107) ?_
    refine XS.iload X5.here hx rfl (hb hby d2_108) rfl ?_
    refine st6 _ ?_
    show Steps p.tables e below (T6.setTop (mkF m 111 #[.val (.int (4 : Int32)), .val (.int ja), .val (.int jb), .val (.int jc), .val (.int jd)] [(.ref b2), (.ref b1), (.ref b1)])) _
    exact Steps.refl _)
  obtain ⟨v8, T8, L8, X8, ⟨rfl, N8', K8, E8, Cd8, t8, kb8, gt8, lo8, ne8, V8, Kb8⟩, c8'⟩ := own_spec X6 hx hml hZ hown rfl (hw _ (List.mem_of_getElem? (i := 12) rfl)) (hw _ (List.mem_of_getElem? (i := 13) rfl)) (hw _ (List.mem_of_getElem? (i := 14) rfl)) (by decide) (Q := StrChars.Road.QV Z b1 (4 : Int32) (([ja, jb, jc, jd] : List Int32).map (fun c : Int32 => c.toInt8.toInt32)) h6 Z.heap.size) (kc := 1) (ks := 4) (h := h6) (W := 1) (b := b1) (argsL := [(.ref b2)]) (rest := [(.ref b1)]) (StrChars.Road.backV (s := (s.setVm s.vm)) (R := ({ frames := 7, cells := 6, slots := 40, locals := 110 } : Room)) (W := 1) hZ (own_wi hw) (kI := 4) (hw _ (List.mem_of_getElem? (i := 9) rfl)) (cs := [ja, jb, jc, jd]) (bs := ([ja, jb, jc, jd] : List Int32).map (fun c : Int32 => c.toInt8.toInt32)) (n := 4) ge1 ((((((O0.ext E1).ext E2).wr W3 ge2).wr W4 ge2).wr W5 ge2).wr W6 ge2).2.1 (((((A1.ext E2).wr W3).wr W4).wr W5).wr W6) (((((F1_value.ext E2).other W3 (Or.inl (Nat.ne_of_lt (Nat.lt_of_lt_of_le A1.lt lo2)))).other W4 (Or.inl (Nat.ne_of_lt (Nat.lt_of_lt_of_le A1.lt lo2)))).other W5 (Or.inl (Nat.ne_of_lt (Nat.lt_of_lt_of_le A1.lt lo2)))).other W6 (Or.inl (Nat.ne_of_lt (Nat.lt_of_lt_of_le A1.lt lo2)))) (((((F1_coder.ext E2).other W3 (Or.inl (Nat.ne_of_lt (Nat.lt_of_lt_of_le A1.lt lo2)))).other W4 (Or.inl (Nat.ne_of_lt (Nat.lt_of_lt_of_le A1.lt lo2)))).other W5 (Or.inl (Nat.ne_of_lt (Nat.lt_of_lt_of_le A1.lt lo2)))).other W6 (Or.inl (Nat.ne_of_lt (Nat.lt_of_lt_of_le A1.lt lo2)))) V6a (SC.ext ((((((O0.ext E1).ext E2).wr W3 ge2).wr W4 ge2).wr W5 ge2).wr W6 ge2).2) hz rfl rfl (by decide) (by decide) (fun c hc => ((own_cons hBja (own_cons hBjb (own_cons hBjc (own_cons hBjd own_nil)))) c hc).rng) rfl (by decide) (by decide)) c7 (lenOf pd_22 rfl) rfl (hb hby d2_111) e6
  have N8 := Fr.app N6 N8'
  have R8 := CHr.keep K8 (sfS (((((R2.trans R3).trans R4).trans R5).trans R6).safe A1.lt sf1) sf0) CR6.1
  have CR8 := CR6.trans R8
  have hk8 := Nat.le_trans hk6 R8.2.1
  have c8 : Steps p.tables e below S0 (T8.setTop (mkF m 114 #[.val (.int (4 : Int32)), .val (.int ja), .val (.int jb), .val (.int jc), .val (.int jd)] [(.ref b1)])) := c8'
  refine ⟨T8, s.vm, _, (some (.ref b1)), _, _, _, X8, by decide, by decide, (fun q => by cases q), N8, hS0, hk8, hZ, CR8, ?_, fun fs hr => ?_⟩
  · skip
    exact ⟨b1, t8, kb8, rfl, ((((((((Keep.refl h0 []).ext E1).ext E2).wr W3 (Or.inr (Nat.le_trans ((Keep.refl h0 []).ext E1).1 lo2))).wr W4 (Or.inr (Nat.le_trans ((Keep.refl h0 []).ext E1).1 lo2))).wr W5 (Or.inr (Nat.le_trans ((Keep.refl h0 []).ext E1).1 lo2))).wr W6 (Or.inr (Nat.le_trans ((Keep.refl h0 []).ext E1).1 lo2))).trans K8 (allS (Or.inr (Nat.le_trans (Keep.refl h0 []).1 lo1)) all0)), (Nat.le_trans (Keep.refl h0 []).1 lo1), E8, V8, Cd8, Kb8⟩
  · exact own_retR X8 hx c8 hret rfl rfl (hb hby d2_114) hr
set_option maxRecDepth 65536 in
set_option maxHeartbeats 40000000 in
theorem rm0 (l : Launch) (Z : State) (a0 : Array Value) (hw : ∀ d ∈ tables_1, d.before a0 Z = true) (hEL : EW Z a0 EL) (i0 i1 i2 i3 i4 : Int32) (z : Int32) (fm fo : Value) (h0 : Heap) (O0 : Old Z Z.heap.size h0) (SC : Sta Z Z.heap "java/lang/String" "COMPACT_STRINGS" "Z" (.int z)) (hz : ¬ z = 0) (SF : Sta Z Z.heap "jdk/internal/util/Preconditions" "SIOOBE_FORMATTER" "Ljava/util/function/BiFunction;" fm) (hfm : fm.isRef = true) (SI : Sta Z Z.heap "jdk/internal/util/Preconditions" "IOOBE_FORMATTER" "Ljava/util/function/BiFunction;" fo) (hfo : fo.isRef = true) :
    own_WW l Z EL x code maxLocals ret room_1 #[(.int i0), (.int i1), (.int i2), (.int i3), (.int i4)] h0 [] (fun v h => v = some (.int (1 : Int32))) := by
  intro p e s m below meth c s₁ S0 X0 hx hby hml hret hnm hown hZ e0 hS0 CR0 hsf cc
  have N0 := Fr.nil Z.heap.size
  have hk0 : 0 ≤ h0.size := Nat.zero_le _
  have hstr : ∀ d ∈ Bundle.stringAtoms, d.before a0 Z = true := fun d hd => hw d (own_strA d hd)
  have c0 : Steps p.tables e below S0 (s₁.setTop (mkF m 0 #[.val (.int i0), .val (.int i1), .val (.int i2), .val (.int i3), .val (.int i4), .unset, .unset, .unset, .unset, .unset, .unset, .unset, .unset, .unset] [])) := cc.trans (XT.entry rfl)
  have c2 : Steps p.tables e below S0 (s₁.setTop (mkF m 6 #[.val (.int i0), .val (.int i1), .val (.int i2), .val (.int i3), .val (.int i4), .unset, .unset, .unset, .unset, .unset, .unset, .unset, .unset, .unset] [(.int ((i0 &&& (2147483647 : Int32)) % (5 : Int32)))])) := c0.trans (by
    refine XS.iloadN X0.here hx rfl (hb hby at_0) rfl ?_
    refine X0.ldcInt hx hown (mvT hZ (hw _ (List.mem_of_getElem? (i := 0) rfl))) (g := (mkF m 1 #[.val (.int i0), .val (.int i1), .val (.int i2), .val (.int i3), .val (.int i4), .unset, .unset, .unset, .unset, .unset, .unset, .unset, .unset, .unset] [(.int i0)])) rfl (hb hby at_1) _ ?_
    refine XS.iand X0.here hx rfl (hb hby at_3) rfl ?_
    refine XS.iconst X0.here hx rfl (hb hby at_4) ?_
    refine iremM X0 hx rfl (hb hby at_5) rfl (by decide) ?_
    exact Steps.refl _)
  rcases own_rem5 i0 with q3 | q3 | q3 | q3 | q3
  · skip
    have eq4 : ((i0 &&& (2147483647 : Int32)) % (5 : Int32)) = (0 : Int32) := q3
    have c4 : Steps p.tables e below S0 (s₁.setTop (mkF m 6 #[.val (.int i0), .val (.int i1), .val (.int i2), .val (.int i3), .val (.int i4), .unset, .unset, .unset, .unset, .unset, .unset, .unset, .unset, .unset] [(.int (0 : Int32))])) := by have q := c2; rw [eq4] at q; exact q
    have c5 : Steps p.tables e below S0 (s₁.setTop (mkF m 9 #[.val (.int i0), .val (.int i1), .val (.int i2), .val (.int i3), .val (.int i4), .val (.int (0 : Int32)), .unset, .unset, .unset, .unset, .unset, .unset, .unset, .unset] [(.int i1)])) := c4.trans (by
      refine XS.istore X0.here hx rfl (hb hby at_6) rfl (l' := #[.val (.int i0), .val (.int i1), .val (.int i2), .val (.int i3), .val (.int i4), .val (.int (0 : Int32)), .unset, .unset, .unset, .unset, .unset, .unset, .unset, .unset]) rfl ?_
      refine XS.iloadN X0.here hx rfl (hb hby at_8) rfl ?_
      exact Steps.refl _)
    obtain ⟨v6, T6, L6, X6, ⟨N6', k6, hB6, rfl, e6⟩, c6'⟩ := own_stat X0 hx hml hZ hown (hw _ (List.mem_of_getElem? (i := 1) rfl)) (hw _ (List.mem_of_getElem? (i := 2) rfl)) (hw _ (List.mem_of_getElem? (i := 3) rfl)) (hw _ (List.mem_of_getElem? (i := 4) rfl)) (by decide) (kc := 0) (ks := 0) (h := h0) (W := 0) (argsL := [(.int i1)]) (rest := []) (own_pay (W := 0) (rmDraw l Z a0 hw i1 h0 O0) hZ (hw _ (List.mem_of_getElem? (i := 4) rfl)) (hw _ (List.mem_of_getElem? (i := 3) rfl)) (by decide) (by decide)) c5 (lenOf pd_17 rfl) rfl (hb hby at_9) e0
    have N6 := Fr.app N0 N6'
    have c6 : Steps p.tables e below S0 (T6.setTop (mkF m 12 #[.val (.int i0), .val (.int i1), .val (.int i2), .val (.int i3), .val (.int i4), .val (.int (0 : Int32)), .unset, .unset, .unset, .unset, .unset, .unset, .unset, .unset] [(.int k6)])) := c6'
    have c7 : Steps p.tables e below S0 (T6.setTop (mkF m 15 #[.val (.int i0), .val (.int i1), .val (.int i2), .val (.int i3), .val (.int i4), .val (.int (0 : Int32)), .val (.int k6), .unset, .unset, .unset, .unset, .unset, .unset, .unset] [(.int i2)])) := c6.trans (by
      refine XS.istore X6.here hx rfl (hb hby at_12) rfl (l' := #[.val (.int i0), .val (.int i1), .val (.int i2), .val (.int i3), .val (.int i4), .val (.int (0 : Int32)), .val (.int k6), .unset, .unset, .unset, .unset, .unset, .unset, .unset]) rfl ?_
      refine XS.iloadN X6.here hx rfl (hb hby at_14) rfl ?_
      exact Steps.refl _)
    obtain ⟨v8, T8, L8, X8, ⟨N8', k8, hB8, rfl, e8⟩, c8'⟩ := own_stat X6 hx hml hZ hown (hw _ (List.mem_of_getElem? (i := 1) rfl)) (hw _ (List.mem_of_getElem? (i := 2) rfl)) (hw _ (List.mem_of_getElem? (i := 3) rfl)) (hw _ (List.mem_of_getElem? (i := 4) rfl)) (by decide) (kc := 0) (ks := 0) (h := h0) (W := 0) (argsL := [(.int i2)]) (rest := []) (own_pay (W := 0) (rmDraw l Z a0 hw i2 h0 O0) hZ (hw _ (List.mem_of_getElem? (i := 4) rfl)) (hw _ (List.mem_of_getElem? (i := 3) rfl)) (by decide) (by decide)) c7 (lenOf pd_17 rfl) rfl (hb hby at_15) e6
    have N8 := Fr.app N6 N8'
    have c8 : Steps p.tables e below S0 (T8.setTop (mkF m 18 #[.val (.int i0), .val (.int i1), .val (.int i2), .val (.int i3), .val (.int i4), .val (.int (0 : Int32)), .val (.int k6), .unset, .unset, .unset, .unset, .unset, .unset, .unset] [(.int k8)])) := c8'
    have c9 : Steps p.tables e below S0 (T8.setTop (mkF m 21 #[.val (.int i0), .val (.int i1), .val (.int i2), .val (.int i3), .val (.int i4), .val (.int (0 : Int32)), .val (.int k6), .val (.int k8), .unset, .unset, .unset, .unset, .unset, .unset] [(.int i3)])) := c8.trans (by
      refine XS.istore X8.here hx rfl (hb hby at_18) rfl (l' := #[.val (.int i0), .val (.int i1), .val (.int i2), .val (.int i3), .val (.int i4), .val (.int (0 : Int32)), .val (.int k6), .val (.int k8), .unset, .unset, .unset, .unset, .unset, .unset]) rfl ?_
      refine XS.iloadN X8.here hx rfl (hb hby at_20) rfl ?_
      exact Steps.refl _)
    obtain ⟨v10, T10, L10, X10, ⟨N10', k10, hB10, rfl, e10⟩, c10'⟩ := own_stat X8 hx hml hZ hown (hw _ (List.mem_of_getElem? (i := 1) rfl)) (hw _ (List.mem_of_getElem? (i := 2) rfl)) (hw _ (List.mem_of_getElem? (i := 3) rfl)) (hw _ (List.mem_of_getElem? (i := 4) rfl)) (by decide) (kc := 0) (ks := 0) (h := h0) (W := 0) (argsL := [(.int i3)]) (rest := []) (own_pay (W := 0) (rmDraw l Z a0 hw i3 h0 O0) hZ (hw _ (List.mem_of_getElem? (i := 4) rfl)) (hw _ (List.mem_of_getElem? (i := 3) rfl)) (by decide) (by decide)) c9 (lenOf pd_17 rfl) rfl (hb hby at_21) e8
    have N10 := Fr.app N8 N10'
    have c10 : Steps p.tables e below S0 (T10.setTop (mkF m 24 #[.val (.int i0), .val (.int i1), .val (.int i2), .val (.int i3), .val (.int i4), .val (.int (0 : Int32)), .val (.int k6), .val (.int k8), .unset, .unset, .unset, .unset, .unset, .unset] [(.int k10)])) := c10'
    have c11 : Steps p.tables e below S0 (T10.setTop (mkF m 28 #[.val (.int i0), .val (.int i1), .val (.int i2), .val (.int i3), .val (.int i4), .val (.int (0 : Int32)), .val (.int k6), .val (.int k8), .val (.int k10), .unset, .unset, .unset, .unset, .unset] [(.int i4)])) := c10.trans (by
      refine XS.istore X10.here hx rfl (hb hby at_24) rfl (l' := #[.val (.int i0), .val (.int i1), .val (.int i2), .val (.int i3), .val (.int i4), .val (.int (0 : Int32)), .val (.int k6), .val (.int k8), .val (.int k10), .unset, .unset, .unset, .unset, .unset]) rfl ?_
      refine XS.iload X10.here hx rfl (hb hby at_26) rfl ?_
      exact Steps.refl _)
    obtain ⟨v12, T12, L12, X12, ⟨N12', k12, hB12, rfl, e12⟩, c12'⟩ := own_stat X10 hx hml hZ hown (hw _ (List.mem_of_getElem? (i := 1) rfl)) (hw _ (List.mem_of_getElem? (i := 2) rfl)) (hw _ (List.mem_of_getElem? (i := 3) rfl)) (hw _ (List.mem_of_getElem? (i := 4) rfl)) (by decide) (kc := 0) (ks := 0) (h := h0) (W := 0) (argsL := [(.int i4)]) (rest := []) (own_pay (W := 0) (rmDraw l Z a0 hw i4 h0 O0) hZ (hw _ (List.mem_of_getElem? (i := 4) rfl)) (hw _ (List.mem_of_getElem? (i := 3) rfl)) (by decide) (by decide)) c11 (lenOf pd_17 rfl) rfl (hb hby at_28) e10
    have N12 := Fr.app N10 N12'
    have c12 : Steps p.tables e below S0 (T12.setTop (mkF m 31 #[.val (.int i0), .val (.int i1), .val (.int i2), .val (.int i3), .val (.int i4), .val (.int (0 : Int32)), .val (.int k6), .val (.int k8), .val (.int k10), .unset, .unset, .unset, .unset, .unset] [(.int k12)])) := c12'
    have c13 : Steps p.tables e below S0 (T12.setTop (mkF m 43 #[.val (.int i0), .val (.int i1), .val (.int i2), .val (.int i3), .val (.int i4), .val (.int (0 : Int32)), .val (.int k6), .val (.int k8), .val (.int k10), .val (.int k12), .unset, .unset, .unset, .unset] [(.int k12), (.int k10), (.int k8), (.int k6), (.int (0 : Int32))])) := c12.trans (by
      refine XS.istore X12.here hx rfl (hb hby at_31) rfl (l' := #[.val (.int i0), .val (.int i1), .val (.int i2), .val (.int i3), .val (.int i4), .val (.int (0 : Int32)), .val (.int k6), .val (.int k8), .val (.int k10), .val (.int k12), .unset, .unset, .unset, .unset]) rfl ?_
      refine XS.iload X12.here hx rfl (hb hby at_33) rfl ?_
      refine XS.iload X12.here hx rfl (hb hby at_35) rfl ?_
      refine XS.iload X12.here hx rfl (hb hby at_37) rfl ?_
      refine XS.iload X12.here hx rfl (hb hby at_39) rfl ?_
      refine XS.iload X12.here hx rfl (hb hby at_41) rfl ?_
      exact Steps.refl _)
    obtain ⟨v14, T14, L14, X14, hS14, hZ14, hown14, R14, ⟨N14', x14, t14, kb14, rfl, K14, lo14, E14, V14, Cd14, Kb14⟩, c14'⟩ := own_wstat X12 hx hml hZ hown hS0 hk0 (hw _ (List.mem_of_getElem? (i := 5) rfl)) (hw _ (List.mem_of_getElem? (i := 6) rfl)) (hw _ (List.mem_of_getElem? (i := 3) rfl)) (hw _ (List.mem_of_getElem? (i := 7) rfl)) (by decide) (kc := 6) (ks := 40) (h := h0) (W := 0) (argsL := [(.int (0 : Int32)), (.int k6), (.int k8), (.int k10), (.int k12)]) (rest := []) (own_wpay (W := 0) (rmMk0 l Z a0 hw hEL k6 k8 k10 k12 z fm h0 O0 hB6 hB8 hB10 hB12 SC hz SF hfm) hZ (hw _ (List.mem_of_getElem? (i := 7) rfl)) (hw _ (List.mem_of_getElem? (i := 3) rfl)) (by decide) (by decide) hEL CR0.1 all0) c13 (lenOf pd_23 rfl) rfl (hb hby at_43) e12
    have N14 := Fr.app N12 N14'
    have CR14 := CR0.trans R14
    have c14 : Steps p.tables e below S0 (T14.setTop (mkF m 46 #[.val (.int i0), .val (.int i1), .val (.int i2), .val (.int i3), .val (.int i4), .val (.int (0 : Int32)), .val (.int k6), .val (.int k8), .val (.int k10), .val (.int k12), .unset, .unset, .unset, .unset] [(.ref x14)])) := c14'
    obtain ⟨T15, h15, k15, X15, e15, E15, A15, st15⟩ := newP X14 hx hZ14 (hw _ (List.mem_of_getElem? (i := 11) rfl)) rfl (g := (mkF m 50 #[.val (.int i0), .val (.int i1), .val (.int i2), .val (.int i3), .val (.int i4), .val (.int (0 : Int32)), .val (.int k6), .val (.int k8), .val (.int k10), .val (.int k12), .val (.ref x14), .unset, .unset, .unset] [(.int (8 : Int32))])) rfl (hb hby at_50) rfl (by decide) (cap := 8) (by decide) (by decide) (by decide) (by decide)
    obtain ⟨b15, g15⟩ : ∃ z, z = T14.heap.size := ⟨_, rfl⟩
    rw [← g15] at A15 st15
    have lo15 : T14.heap.size ≤ b15 := Nat.le_of_eq g15.symm
    have ge15 : Z.heap.size ≤ b15 := Nat.le_trans (O0.keep K14 all0).2.1 lo15
    have R15 := CHr.ext (EL := EL) E15 CR14.1
    have sf15 := Safe.ext E15 CR14.1 (Safe.new lo15)
    have CR15 := CR14.trans R15
    have hk15 := Nat.le_trans (Nat.le_refl _) R15.2.1
    have V15 := Arv.new A15 (by decide)
    have V15a : Arv Z h15 b15 k15 .char (8 : Int32) [(.int (0 : Int32)), (.int (0 : Int32)), (.int (0 : Int32)), (.int (0 : Int32)), (.int (0 : Int32)), (.int (0 : Int32)), (.int (0 : Int32)), (.int (0 : Int32))] (.int (0 : Int32)) := V15.pad (pad_rep [] (.int (0 : Int32)) 8)
    have c16 : Steps p.tables e below S0 (T15.setTop (mkF m 124 #[.val (.int i0), .val (.int i1), .val (.int i2), .val (.int i3), .val (.int i4), .val (.int (0 : Int32)), .val (.int k6), .val (.int k8), .val (.int k10), .val (.int k12), .val (.ref x14), .val (.ref b15), .val (.int (0 : Int32)), .unset] [])) := c14.trans (by
      refine XS.astore X14.here hx rfl (hb hby at_46) rfl rfl (l' := #[.val (.int i0), .val (.int i1), .val (.int i2), .val (.int i3), .val (.int i4), .val (.int (0 : Int32)), .val (.int k6), .val (.int k8), .val (.int k10), .val (.int k12), .val (.ref x14), .unset, .unset, .unset]) rfl ?_
      refine XS.bipush X14.here hx rfl (hb hby at_48) ?_
      refine st15 _ ?_
      refine XS.astore X15.here hx rfl (hb hby at_52) rfl rfl (l' := #[.val (.int i0), .val (.int i1), .val (.int i2), .val (.int i3), .val (.int i4), .val (.int (0 : Int32)), .val (.int k6), .val (.int k8), .val (.int k10), .val (.int k12), .val (.ref x14), .val (.ref b15), .unset, .unset]) rfl ?_
      refine XS.iconst X15.here hx rfl (hb hby at_54) ?_
      refine XS.istore X15.here hx rfl (hb hby at_55) rfl (l' := #[.val (.int i0), .val (.int i1), .val (.int i2), .val (.int i3), .val (.int i4), .val (.int (0 : Int32)), .val (.int k6), .val (.int k8), .val (.int k10), .val (.int k12), .val (.ref x14), .val (.ref b15), .val (.int (0 : Int32)), .unset]) rfl ?_
      refine XS.iload X15.here hx rfl (hb hby at_57) rfl ?_
      refine XS.ifYes X15.here hx rfl (pc0 := 59) (pc' := 73) rfl (hb hby at_59) rfl ((if0 _ _).trans (flt (by decide : ¬ ((0 : Int32) < (0 : Int32)))).2.2.2) (by decide) (by decide) ?_
      refine XS.iload X15.here hx rfl (hb hby at_73) rfl ?_
      show Steps p.tables e below (T15.setTop (mkF m 75 #[.val (.int i0), .val (.int i1), .val (.int i2), .val (.int i3), .val (.int i4), .val (.int (0 : Int32)), .val (.int k6), .val (.int k8), .val (.int k10), .val (.int k12), .val (.ref x14), .val (.ref b15), .val (.int (0 : Int32)), .unset] [(.int (0 : Int32))])) _
      refine XS.iconst X15.here hx rfl (hb hby at_75) ?_
      refine XS.icmpYes X15.here hx rfl (pc0 := 76) (pc' := 90) rfl (hb hby at_76) rfl (flt (by decide : ¬ ((1 : Int32) < (0 : Int32)))).2.2.2 (by decide) (by decide) ?_
      refine XS.iload X15.here hx rfl (hb hby at_90) rfl ?_
      refine XS.iconst X15.here hx rfl (hb hby at_92) ?_
      refine XS.icmpYes X15.here hx rfl (pc0 := 93) (pc' := 107) rfl (hb hby at_93) rfl (flt (by decide : ¬ ((2 : Int32) < (0 : Int32)))).2.2.2 (by decide) (by decide) ?_
      refine XS.iload X15.here hx rfl (hb hby at_107) rfl ?_
      refine XS.iconst X15.here hx rfl (hb hby at_109) ?_
      refine XS.icmpYes X15.here hx rfl (pc0 := 110) (pc' := 124) rfl (hb hby at_110) rfl (flt (by decide : ¬ ((3 : Int32) < (0 : Int32)))).2.2.2 (by decide) (by decide) ?_
      exact Steps.refl _)
    have hes : [] = (own_esc []) := by simp [own_esc]
    have Vs17 : Arv Z h15 b15 k15 .char (8 : Int32) ((own_esc []).map Value.int) (.int (0 : Int32)) := by rw [← hes]; exact V15
    have hel : (own_esc []).length ≤ 0 := own_escL []
    have hBs : ∀ c ∈ [], own_B c := own_nil
    have c18 : Steps p.tables e below S0 (T15.setTop (mkF m 126 #[.val (.int i0), .val (.int i1), .val (.int i2), .val (.int i3), .val (.int i4), .val (.int (0 : Int32)), .val (.int k6), .val (.int k8), .val (.int k10), .val (.int k12), .val (.ref x14), .val (.ref b15), .val (.int (0 : Int32)), .unset] [(.ref x14)])) := c16.trans (by
      refine XS.aload X15.here hx rfl (hb hby at_124) rfl rfl ?_
      exact Steps.refl _)
    obtain ⟨v19, T19, L19, X19, ⟨N19', r19, t19, kb19, rfl, K19, E19, V19, Cd19, Kb19, hd19⟩, c19'⟩ := own_stat X15 hx hml hZ14 hown14 (hw _ (List.mem_of_getElem? (i := 30) rfl)) (hw _ (List.mem_of_getElem? (i := 31) rfl)) (hw _ (List.mem_of_getElem? (i := 32) rfl)) (hw _ (List.mem_of_getElem? (i := 33) rfl)) (by decide) (kc := 12) (ks := 120) (h := h15) (W := 0) (argsL := [(.ref x14)]) (rest := []) (own_pay (W := 0) (rmEsc l Z a0 hw [] x14 t14 kb14 z fm fo h15 ((O0.keep K14 all0).ext E15) (E14.ext E15) (V14.ext E15) (Cd14.ext E15) (Kb14.ext E15) (by show 0 ≤ 4; decide) hBs SC hz SF hfm SI hfo) hZ14 (hw _ (List.mem_of_getElem? (i := 33) rfl)) (hw _ (List.mem_of_getElem? (i := 32) rfl)) (by decide) (by decide)) c18 (lenOf pd_24 rfl) rfl (hb hby at_126) e15
    have N19 := Fr.app N14 N19'
    have R19 := CHr.keep K19 sf0 CR15.1
    have CR19 := CR15.trans R19
    have hk19 := Nat.le_trans hk15 R19.2.1
    have c19 : Steps p.tables e below S0 (T19.setTop (mkF m 129 #[.val (.int i0), .val (.int i1), .val (.int i2), .val (.int i3), .val (.int i4), .val (.int (0 : Int32)), .val (.int k6), .val (.int k8), .val (.int k10), .val (.int k12), .val (.ref x14), .val (.ref b15), .val (.int (0 : Int32)), .unset] [(.ref r19)])) := c19'
    have c20 : Steps p.tables e below S0 (T19.setTop (mkF m 133 #[.val (.int i0), .val (.int i1), .val (.int i2), .val (.int i3), .val (.int i4), .val (.int (0 : Int32)), .val (.int k6), .val (.int k8), .val (.int k10), .val (.int k12), .val (.ref x14), .val (.ref b15), .val (.int (0 : Int32)), .val (.ref r19)] [(.ref r19)])) := c19.trans (by
      refine XS.astore X19.here hx rfl (hb hby at_129) rfl rfl (l' := #[.val (.int i0), .val (.int i1), .val (.int i2), .val (.int i3), .val (.int i4), .val (.int (0 : Int32)), .val (.int k6), .val (.int k8), .val (.int k10), .val (.int k12), .val (.ref x14), .val (.ref b15), .val (.int (0 : Int32)), .val (.ref r19)]) rfl ?_
      refine XS.aload X19.here hx rfl (hb hby at_131) rfl rfl ?_
      exact Steps.refl _)
    obtain ⟨v21, T21, L21, X21, ⟨rfl, rfl, e21⟩, c21'⟩ := own_virt X19 hx hml hZ14 hown14 (hw _ (List.mem_of_getElem? (i := 45) rfl)) (hw _ (List.mem_of_getElem? (i := 35) rfl)) (hw _ (List.mem_of_getElem? (i := 37) rfl)) (hw _ (List.mem_of_getElem? (i := 36) rfl)) (hw _ (List.mem_of_getElem? (i := 37) rfl)) (by decide) (Q := fun v h' L => v = some (.int (Int32.ofNat ((own_esc []) : List Int32).length)) ∧ L = [] ∧ h' = T19.heap) (kc := 0) (ks := 0) (h := T19.heap) (W := 0) (b := r19) (argsL := []) (rest := []) (StrChars.Road.lenW (s := (s.setVm T14.vm)) (R := room_1) (W := 0) hZ14 (own_wl hw) (kI := 4) (hw _ (List.mem_of_getElem? (i := 9) rfl)) (cs := (own_esc [])) E19 V19 Cd19 Kb19 (StrChars.Road.codOf (n := ((own_esc []) : List Int32).length) rfl (fun c hc => ((own_escB hBs) c hc).rng.2)) (fun c hc => ((own_escB hBs) c hc).rng2) (SC.ext (((O0.keep K14 all0).ext E15).keep K19 all0).2) hz (Nat.le_trans hel (by decide)) (by decide) (by decide)) E19 c20 (lenOf pd_9 rfl) rfl (hb hby at_133) rfl
    have N21 := Fr.app N19 (Fr.nil _)
    have c21 : Steps p.tables e below S0 (T21.setTop (mkF m 136 #[.val (.int i0), .val (.int i1), .val (.int i2), .val (.int i3), .val (.int i4), .val (.int (0 : Int32)), .val (.int k6), .val (.int k8), .val (.int k10), .val (.int k12), .val (.ref x14), .val (.ref b15), .val (.int (0 : Int32)), .val (.ref r19)] [(.int (Int32.ofNat ((own_esc []) : List Int32).length))])) := c21'
    have c22 : Steps p.tables e below S0 (T21.setTop (mkF m 147 #[.val (.int i0), .val (.int i1), .val (.int i2), .val (.int i3), .val (.int i4), .val (.int (0 : Int32)), .val (.int k6), .val (.int k8), .val (.int k10), .val (.int k12), .val (.ref x14), .val (.ref b15), .val (.int (0 : Int32)), .val (.ref r19)] [(.int (0 : Int32)), (.int (0 : Int32))])) := c21.trans (by
      refine XS.iload X21.here hx rfl (hb hby at_136) rfl ?_
      refine XS.icmpYes X21.here hx rfl (pc0 := 138) (pc' := 143) rfl (hb hby at_138) rfl (teq (rfl : (Int32.ofNat ((own_esc []) : List Int32).length) = (0 : Int32))).1 (by decide) (by decide) ?_
      refine XS.iload X21.here hx rfl (hb hby at_143) rfl ?_
      refine XS.iload X21.here hx rfl (hb hby at_145) rfl ?_
      exact Steps.refl _)
    rcases hd19 with ⟨hr19, he19⟩ | hg19
    · skip
      have c23 : Steps p.tables e below S0 (T21.setTop (mkF m 166 #[.val (.int i0), .val (.int i1), .val (.int i2), .val (.int i3), .val (.int i4), .val (.int (0 : Int32)), .val (.int k6), .val (.int k8), .val (.int k10), .val (.int k12), .val (.ref x14), .val (.ref b15), .val (.int (0 : Int32)), .val (.ref r19)] [(.int (0 : Int32)), (.int (0 : Int32)), (.ref b15), (.ref r19)])) := c22.trans (by
        refine XS.icmpNo X21.here hx rfl (hb hby at_147) rfl (teq (rfl : (0 : Int32) = (0 : Int32))).2 ?_
        refine XS.aload X21.here hx rfl (hb hby at_150) rfl rfl ?_
        refine XS.aload X21.here hx rfl (hb hby at_152) rfl rfl ?_
        refine Jvm.RoadKit.acmp (g := (mkF m 154 #[.val (.int i0), .val (.int i1), .val (.int i2), .val (.int i3), .val (.int i4), .val (.int (0 : Int32)), .val (.int k6), .val (.int k8), .val (.int k10), .val (.int k12), .val (.ref x14), .val (.ref b15), .val (.int (0 : Int32)), .val (.ref r19)] [(.ref x14), (.ref r19)])) X21 hx rfl rfl rfl (pc0 := 154) (pc' := 159) (same := true) rfl (hb hby at_154) rfl (decide_eq_true (congrArg Value.ref hr19)) (by decide) (by decide) ?_
        refine XS.aload X21.here hx rfl (hb hby at_159) rfl rfl ?_
        refine XS.aload X21.here hx rfl (hb hby at_161) rfl rfl ?_
        refine XS.iload X21.here hx rfl (hb hby at_163) rfl ?_
        refine XS.iconst X21.here hx rfl (hb hby at_165) ?_
        exact Steps.refl _)
      obtain ⟨v24, T24, L24, X24, ⟨N24', rfl, e24⟩, c24'⟩ := own_stat X21 hx hml hZ14 hown14 (hw _ (List.mem_of_getElem? (i := 46) rfl)) (hw _ (List.mem_of_getElem? (i := 47) rfl)) (hw _ (List.mem_of_getElem? (i := 3) rfl)) (hw _ (List.mem_of_getElem? (i := 48) rfl)) (by decide) (kc := 0) (ks := 0) (h := T19.heap) (W := 0) (argsL := [(.ref r19), (.ref b15), (.int (0 : Int32)), (.int (0 : Int32))]) (rest := []) (own_pay (W := 0) (rmAt l Z a0 hw (own_esc []) r19 t19 kb19 b15 k15 0 z fm T19.heap (((O0.keep K14 all0).ext E15).keep K19 all0) E19 V19 Cd19 Kb19 (Vs17.keep K19 nin0) (own_escB hBs) (by decide) (Nat.le_trans hel (by decide)) SC hz SF hfm) hZ14 (hw _ (List.mem_of_getElem? (i := 48) rfl)) (hw _ (List.mem_of_getElem? (i := 3) rfl)) (by decide) (by decide)) c23 (lenOf pd_25 rfl) rfl (hb hby at_166) e21
      have N24 := Fr.app N21 N24'
      have c24 : Steps p.tables e below S0 (T24.setTop (mkF m 169 #[.val (.int i0), .val (.int i1), .val (.int i2), .val (.int i3), .val (.int i4), .val (.int (0 : Int32)), .val (.int k6), .val (.int k8), .val (.int k10), .val (.int k12), .val (.ref x14), .val (.ref b15), .val (.int (0 : Int32)), .val (.ref r19)] [(.int (1 : Int32))])) := c24'
      have c25 : Steps p.tables e below S0 (T24.setTop (mkF m 179 #[.val (.int i0), .val (.int i1), .val (.int i2), .val (.int i3), .val (.int i4), .val (.int (0 : Int32)), .val (.int k6), .val (.int k8), .val (.int k10), .val (.int k12), .val (.ref x14), .val (.ref b15), .val (.int (0 : Int32)), .val (.ref r19)] [(.int (1 : Int32)), (.int (0 : Int32)), (.ref b15), (.ref r19)])) := c24.trans (by
        refine XS.ifNo X24.here hx rfl (hb hby at_169) rfl ((if0 _ _).trans (feq (by decide : ¬ ((1 : Int32) = (0 : Int32)))).1) ?_
        refine XS.aload X24.here hx rfl (hb hby at_172) rfl rfl ?_
        refine XS.aload X24.here hx rfl (hb hby at_174) rfl rfl ?_
        refine XS.iload X24.here hx rfl (hb hby at_176) rfl ?_
        refine XS.iconst X24.here hx rfl (hb hby at_178) ?_
        exact Steps.refl _)
      obtain ⟨v26, T26, L26, X26, ⟨N26', rfl, e26⟩, c26'⟩ := own_stat X24 hx hml hZ14 hown14 (hw _ (List.mem_of_getElem? (i := 46) rfl)) (hw _ (List.mem_of_getElem? (i := 47) rfl)) (hw _ (List.mem_of_getElem? (i := 3) rfl)) (hw _ (List.mem_of_getElem? (i := 48) rfl)) (by decide) (kc := 0) (ks := 0) (h := T19.heap) (W := 0) (argsL := [(.ref r19), (.ref b15), (.int (0 : Int32)), (.int (1 : Int32))]) (rest := []) (own_pay (W := 0) (rmAt l Z a0 hw (own_esc []) r19 t19 kb19 b15 k15 1 z fm T19.heap (((O0.keep K14 all0).ext E15).keep K19 all0) E19 V19 Cd19 Kb19 (Vs17.keep K19 nin0) (own_escB hBs) (by decide) (Nat.le_trans hel (by decide)) SC hz SF hfm) hZ14 (hw _ (List.mem_of_getElem? (i := 48) rfl)) (hw _ (List.mem_of_getElem? (i := 3) rfl)) (by decide) (by decide)) c25 (lenOf pd_25 rfl) rfl (hb hby at_179) e24
      have N26 := Fr.app N24 N26'
      have c26 : Steps p.tables e below S0 (T26.setTop (mkF m 182 #[.val (.int i0), .val (.int i1), .val (.int i2), .val (.int i3), .val (.int i4), .val (.int (0 : Int32)), .val (.int k6), .val (.int k8), .val (.int k10), .val (.int k12), .val (.ref x14), .val (.ref b15), .val (.int (0 : Int32)), .val (.ref r19)] [(.int (1 : Int32))])) := c26'
      have c27 : Steps p.tables e below S0 (T26.setTop (mkF m 192 #[.val (.int i0), .val (.int i1), .val (.int i2), .val (.int i3), .val (.int i4), .val (.int (0 : Int32)), .val (.int k6), .val (.int k8), .val (.int k10), .val (.int k12), .val (.ref x14), .val (.ref b15), .val (.int (0 : Int32)), .val (.ref r19)] [(.int (2 : Int32)), (.int (0 : Int32)), (.ref b15), (.ref r19)])) := c26.trans (by
        refine XS.ifNo X26.here hx rfl (hb hby at_182) rfl ((if0 _ _).trans (feq (by decide : ¬ ((1 : Int32) = (0 : Int32)))).1) ?_
        refine XS.aload X26.here hx rfl (hb hby at_185) rfl rfl ?_
        refine XS.aload X26.here hx rfl (hb hby at_187) rfl rfl ?_
        refine XS.iload X26.here hx rfl (hb hby at_189) rfl ?_
        refine XS.iconst X26.here hx rfl (hb hby at_191) ?_
        exact Steps.refl _)
      obtain ⟨v28, T28, L28, X28, ⟨N28', rfl, e28⟩, c28'⟩ := own_stat X26 hx hml hZ14 hown14 (hw _ (List.mem_of_getElem? (i := 46) rfl)) (hw _ (List.mem_of_getElem? (i := 47) rfl)) (hw _ (List.mem_of_getElem? (i := 3) rfl)) (hw _ (List.mem_of_getElem? (i := 48) rfl)) (by decide) (kc := 0) (ks := 0) (h := T19.heap) (W := 0) (argsL := [(.ref r19), (.ref b15), (.int (0 : Int32)), (.int (2 : Int32))]) (rest := []) (own_pay (W := 0) (rmAt l Z a0 hw (own_esc []) r19 t19 kb19 b15 k15 2 z fm T19.heap (((O0.keep K14 all0).ext E15).keep K19 all0) E19 V19 Cd19 Kb19 (Vs17.keep K19 nin0) (own_escB hBs) (by decide) (Nat.le_trans hel (by decide)) SC hz SF hfm) hZ14 (hw _ (List.mem_of_getElem? (i := 48) rfl)) (hw _ (List.mem_of_getElem? (i := 3) rfl)) (by decide) (by decide)) c27 (lenOf pd_25 rfl) rfl (hb hby at_192) e26
      have N28 := Fr.app N26 N28'
      have c28 : Steps p.tables e below S0 (T28.setTop (mkF m 195 #[.val (.int i0), .val (.int i1), .val (.int i2), .val (.int i3), .val (.int i4), .val (.int (0 : Int32)), .val (.int k6), .val (.int k8), .val (.int k10), .val (.int k12), .val (.ref x14), .val (.ref b15), .val (.int (0 : Int32)), .val (.ref r19)] [(.int (1 : Int32))])) := c28'
      have c29 : Steps p.tables e below S0 (T28.setTop (mkF m 205 #[.val (.int i0), .val (.int i1), .val (.int i2), .val (.int i3), .val (.int i4), .val (.int (0 : Int32)), .val (.int k6), .val (.int k8), .val (.int k10), .val (.int k12), .val (.ref x14), .val (.ref b15), .val (.int (0 : Int32)), .val (.ref r19)] [(.int (3 : Int32)), (.int (0 : Int32)), (.ref b15), (.ref r19)])) := c28.trans (by
        refine XS.ifNo X28.here hx rfl (hb hby at_195) rfl ((if0 _ _).trans (feq (by decide : ¬ ((1 : Int32) = (0 : Int32)))).1) ?_
        refine XS.aload X28.here hx rfl (hb hby at_198) rfl rfl ?_
        refine XS.aload X28.here hx rfl (hb hby at_200) rfl rfl ?_
        refine XS.iload X28.here hx rfl (hb hby at_202) rfl ?_
        refine XS.iconst X28.here hx rfl (hb hby at_204) ?_
        exact Steps.refl _)
      obtain ⟨v30, T30, L30, X30, ⟨N30', rfl, e30⟩, c30'⟩ := own_stat X28 hx hml hZ14 hown14 (hw _ (List.mem_of_getElem? (i := 46) rfl)) (hw _ (List.mem_of_getElem? (i := 47) rfl)) (hw _ (List.mem_of_getElem? (i := 3) rfl)) (hw _ (List.mem_of_getElem? (i := 48) rfl)) (by decide) (kc := 0) (ks := 0) (h := T19.heap) (W := 0) (argsL := [(.ref r19), (.ref b15), (.int (0 : Int32)), (.int (3 : Int32))]) (rest := []) (own_pay (W := 0) (rmAt l Z a0 hw (own_esc []) r19 t19 kb19 b15 k15 3 z fm T19.heap (((O0.keep K14 all0).ext E15).keep K19 all0) E19 V19 Cd19 Kb19 (Vs17.keep K19 nin0) (own_escB hBs) (by decide) (Nat.le_trans hel (by decide)) SC hz SF hfm) hZ14 (hw _ (List.mem_of_getElem? (i := 48) rfl)) (hw _ (List.mem_of_getElem? (i := 3) rfl)) (by decide) (by decide)) c29 (lenOf pd_25 rfl) rfl (hb hby at_205) e28
      have N30 := Fr.app N28 N30'
      have c30 : Steps p.tables e below S0 (T30.setTop (mkF m 208 #[.val (.int i0), .val (.int i1), .val (.int i2), .val (.int i3), .val (.int i4), .val (.int (0 : Int32)), .val (.int k6), .val (.int k8), .val (.int k10), .val (.int k12), .val (.ref x14), .val (.ref b15), .val (.int (0 : Int32)), .val (.ref r19)] [(.int (1 : Int32))])) := c30'
      have c31 : Steps p.tables e below S0 (T30.setTop (mkF m 218 #[.val (.int i0), .val (.int i1), .val (.int i2), .val (.int i3), .val (.int i4), .val (.int (0 : Int32)), .val (.int k6), .val (.int k8), .val (.int k10), .val (.int k12), .val (.ref x14), .val (.ref b15), .val (.int (0 : Int32)), .val (.ref r19)] [(.int (4 : Int32)), (.int (0 : Int32)), (.ref b15), (.ref r19)])) := c30.trans (by
        refine XS.ifNo X30.here hx rfl (hb hby at_208) rfl ((if0 _ _).trans (feq (by decide : ¬ ((1 : Int32) = (0 : Int32)))).1) ?_
        refine XS.aload X30.here hx rfl (hb hby at_211) rfl rfl ?_
        refine XS.aload X30.here hx rfl (hb hby at_213) rfl rfl ?_
        refine XS.iload X30.here hx rfl (hb hby at_215) rfl ?_
        refine XS.iconst X30.here hx rfl (hb hby at_217) ?_
        exact Steps.refl _)
      obtain ⟨v32, T32, L32, X32, ⟨N32', rfl, e32⟩, c32'⟩ := own_stat X30 hx hml hZ14 hown14 (hw _ (List.mem_of_getElem? (i := 46) rfl)) (hw _ (List.mem_of_getElem? (i := 47) rfl)) (hw _ (List.mem_of_getElem? (i := 3) rfl)) (hw _ (List.mem_of_getElem? (i := 48) rfl)) (by decide) (kc := 0) (ks := 0) (h := T19.heap) (W := 0) (argsL := [(.ref r19), (.ref b15), (.int (0 : Int32)), (.int (4 : Int32))]) (rest := []) (own_pay (W := 0) (rmAt l Z a0 hw (own_esc []) r19 t19 kb19 b15 k15 4 z fm T19.heap (((O0.keep K14 all0).ext E15).keep K19 all0) E19 V19 Cd19 Kb19 (Vs17.keep K19 nin0) (own_escB hBs) (by decide) (Nat.le_trans hel (by decide)) SC hz SF hfm) hZ14 (hw _ (List.mem_of_getElem? (i := 48) rfl)) (hw _ (List.mem_of_getElem? (i := 3) rfl)) (by decide) (by decide)) c31 (lenOf pd_25 rfl) rfl (hb hby at_218) e30
      have N32 := Fr.app N30 N32'
      have c32 : Steps p.tables e below S0 (T32.setTop (mkF m 221 #[.val (.int i0), .val (.int i1), .val (.int i2), .val (.int i3), .val (.int i4), .val (.int (0 : Int32)), .val (.int k6), .val (.int k8), .val (.int k10), .val (.int k12), .val (.ref x14), .val (.ref b15), .val (.int (0 : Int32)), .val (.ref r19)] [(.int (1 : Int32))])) := c32'
      have c33 : Steps p.tables e below S0 (T32.setTop (mkF m 231 #[.val (.int i0), .val (.int i1), .val (.int i2), .val (.int i3), .val (.int i4), .val (.int (0 : Int32)), .val (.int k6), .val (.int k8), .val (.int k10), .val (.int k12), .val (.ref x14), .val (.ref b15), .val (.int (0 : Int32)), .val (.ref r19)] [(.int (5 : Int32)), (.int (0 : Int32)), (.ref b15), (.ref r19)])) := c32.trans (by
        refine XS.ifNo X32.here hx rfl (hb hby at_221) rfl ((if0 _ _).trans (feq (by decide : ¬ ((1 : Int32) = (0 : Int32)))).1) ?_
        refine XS.aload X32.here hx rfl (hb hby at_224) rfl rfl ?_
        refine XS.aload X32.here hx rfl (hb hby at_226) rfl rfl ?_
        refine XS.iload X32.here hx rfl (hb hby at_228) rfl ?_
        refine XS.iconst X32.here hx rfl (hb hby at_230) ?_
        exact Steps.refl _)
      obtain ⟨v34, T34, L34, X34, ⟨N34', rfl, e34⟩, c34'⟩ := own_stat X32 hx hml hZ14 hown14 (hw _ (List.mem_of_getElem? (i := 46) rfl)) (hw _ (List.mem_of_getElem? (i := 47) rfl)) (hw _ (List.mem_of_getElem? (i := 3) rfl)) (hw _ (List.mem_of_getElem? (i := 48) rfl)) (by decide) (kc := 0) (ks := 0) (h := T19.heap) (W := 0) (argsL := [(.ref r19), (.ref b15), (.int (0 : Int32)), (.int (5 : Int32))]) (rest := []) (own_pay (W := 0) (rmAt l Z a0 hw (own_esc []) r19 t19 kb19 b15 k15 5 z fm T19.heap (((O0.keep K14 all0).ext E15).keep K19 all0) E19 V19 Cd19 Kb19 (Vs17.keep K19 nin0) (own_escB hBs) (by decide) (Nat.le_trans hel (by decide)) SC hz SF hfm) hZ14 (hw _ (List.mem_of_getElem? (i := 48) rfl)) (hw _ (List.mem_of_getElem? (i := 3) rfl)) (by decide) (by decide)) c33 (lenOf pd_25 rfl) rfl (hb hby at_231) e32
      have N34 := Fr.app N32 N34'
      have c34 : Steps p.tables e below S0 (T34.setTop (mkF m 234 #[.val (.int i0), .val (.int i1), .val (.int i2), .val (.int i3), .val (.int i4), .val (.int (0 : Int32)), .val (.int k6), .val (.int k8), .val (.int k10), .val (.int k12), .val (.ref x14), .val (.ref b15), .val (.int (0 : Int32)), .val (.ref r19)] [(.int (1 : Int32))])) := c34'
      have c35 : Steps p.tables e below S0 (T34.setTop (mkF m 245 #[.val (.int i0), .val (.int i1), .val (.int i2), .val (.int i3), .val (.int i4), .val (.int (0 : Int32)), .val (.int k6), .val (.int k8), .val (.int k10), .val (.int k12), .val (.ref x14), .val (.ref b15), .val (.int (0 : Int32)), .val (.ref r19)] [(.int (6 : Int32)), (.int (0 : Int32)), (.ref b15), (.ref r19)])) := c34.trans (by
        refine XS.ifNo X34.here hx rfl (hb hby at_234) rfl ((if0 _ _).trans (feq (by decide : ¬ ((1 : Int32) = (0 : Int32)))).1) ?_
        refine XS.aload X34.here hx rfl (hb hby at_237) rfl rfl ?_
        refine XS.aload X34.here hx rfl (hb hby at_239) rfl rfl ?_
        refine XS.iload X34.here hx rfl (hb hby at_241) rfl ?_
        refine XS.bipush X34.here hx rfl (hb hby at_243) ?_
        exact Steps.refl _)
      obtain ⟨v36, T36, L36, X36, ⟨N36', rfl, e36⟩, c36'⟩ := own_stat X34 hx hml hZ14 hown14 (hw _ (List.mem_of_getElem? (i := 46) rfl)) (hw _ (List.mem_of_getElem? (i := 47) rfl)) (hw _ (List.mem_of_getElem? (i := 3) rfl)) (hw _ (List.mem_of_getElem? (i := 48) rfl)) (by decide) (kc := 0) (ks := 0) (h := T19.heap) (W := 0) (argsL := [(.ref r19), (.ref b15), (.int (0 : Int32)), (.int (6 : Int32))]) (rest := []) (own_pay (W := 0) (rmAt l Z a0 hw (own_esc []) r19 t19 kb19 b15 k15 6 z fm T19.heap (((O0.keep K14 all0).ext E15).keep K19 all0) E19 V19 Cd19 Kb19 (Vs17.keep K19 nin0) (own_escB hBs) (by decide) (Nat.le_trans hel (by decide)) SC hz SF hfm) hZ14 (hw _ (List.mem_of_getElem? (i := 48) rfl)) (hw _ (List.mem_of_getElem? (i := 3) rfl)) (by decide) (by decide)) c35 (lenOf pd_25 rfl) rfl (hb hby at_245) e34
      have N36 := Fr.app N34 N36'
      have c36 : Steps p.tables e below S0 (T36.setTop (mkF m 248 #[.val (.int i0), .val (.int i1), .val (.int i2), .val (.int i3), .val (.int i4), .val (.int (0 : Int32)), .val (.int k6), .val (.int k8), .val (.int k10), .val (.int k12), .val (.ref x14), .val (.ref b15), .val (.int (0 : Int32)), .val (.ref r19)] [(.int (1 : Int32))])) := c36'
      have c37 : Steps p.tables e below S0 (T36.setTop (mkF m 259 #[.val (.int i0), .val (.int i1), .val (.int i2), .val (.int i3), .val (.int i4), .val (.int (0 : Int32)), .val (.int k6), .val (.int k8), .val (.int k10), .val (.int k12), .val (.ref x14), .val (.ref b15), .val (.int (0 : Int32)), .val (.ref r19)] [(.int (7 : Int32)), (.int (0 : Int32)), (.ref b15), (.ref r19)])) := c36.trans (by
        refine XS.ifNo X36.here hx rfl (hb hby at_248) rfl ((if0 _ _).trans (feq (by decide : ¬ ((1 : Int32) = (0 : Int32)))).1) ?_
        refine XS.aload X36.here hx rfl (hb hby at_251) rfl rfl ?_
        refine XS.aload X36.here hx rfl (hb hby at_253) rfl rfl ?_
        refine XS.iload X36.here hx rfl (hb hby at_255) rfl ?_
        refine XS.bipush X36.here hx rfl (hb hby at_257) ?_
        exact Steps.refl _)
      obtain ⟨v38, T38, L38, X38, ⟨N38', rfl, e38⟩, c38'⟩ := own_stat X36 hx hml hZ14 hown14 (hw _ (List.mem_of_getElem? (i := 46) rfl)) (hw _ (List.mem_of_getElem? (i := 47) rfl)) (hw _ (List.mem_of_getElem? (i := 3) rfl)) (hw _ (List.mem_of_getElem? (i := 48) rfl)) (by decide) (kc := 0) (ks := 0) (h := T19.heap) (W := 0) (argsL := [(.ref r19), (.ref b15), (.int (0 : Int32)), (.int (7 : Int32))]) (rest := []) (own_pay (W := 0) (rmAt l Z a0 hw (own_esc []) r19 t19 kb19 b15 k15 7 z fm T19.heap (((O0.keep K14 all0).ext E15).keep K19 all0) E19 V19 Cd19 Kb19 (Vs17.keep K19 nin0) (own_escB hBs) (by decide) (Nat.le_trans hel (by decide)) SC hz SF hfm) hZ14 (hw _ (List.mem_of_getElem? (i := 48) rfl)) (hw _ (List.mem_of_getElem? (i := 3) rfl)) (by decide) (by decide)) c37 (lenOf pd_25 rfl) rfl (hb hby at_259) e36
      have N38 := Fr.app N36 N38'
      have c38 : Steps p.tables e below S0 (T38.setTop (mkF m 262 #[.val (.int i0), .val (.int i1), .val (.int i2), .val (.int i3), .val (.int i4), .val (.int (0 : Int32)), .val (.int k6), .val (.int k8), .val (.int k10), .val (.int k12), .val (.ref x14), .val (.ref b15), .val (.int (0 : Int32)), .val (.ref r19)] [(.int (1 : Int32))])) := c38'
      have c39 : Steps p.tables e below S0 (T38.setTop (mkF m 270 #[.val (.int i0), .val (.int i1), .val (.int i2), .val (.int i3), .val (.int i4), .val (.int (0 : Int32)), .val (.int k6), .val (.int k8), .val (.int k10), .val (.int k12), .val (.ref x14), .val (.ref b15), .val (.int (0 : Int32)), .val (.ref r19)] [(.int (1 : Int32))])) := c38.trans (by
        refine XS.ifNo X38.here hx rfl (hb hby at_262) rfl ((if0 _ _).trans (feq (by decide : ¬ ((1 : Int32) = (0 : Int32)))).1) ?_
        refine XS.iconst X38.here hx rfl (hb hby at_265) ?_
        refine XS.goto X38.here hx rfl (pc0 := 266) (pc' := 270) rfl (hb hby at_266) (by decide) (by decide) ?_
        exact Steps.refl _)
      refine ⟨T38, T14.vm, _, (some (.int (1 : Int32))), _, _, _, X38, by decide, by decide, (fun q => by cases q), N38, hS14, by rw [e38]; exact hk19, hZ14, by rw [e38]; exact CR19, ?_, fun fs hr => ?_⟩
      · skip
        exact rfl
      · exact c39.trans (retN X38 hx (t := .boolean) hret (by simp) (hb hby at_270) hr)
    · skip
      exact absurd hg19 (Nat.lt_irrefl 0)
  · skip
    have eq41 : ((i0 &&& (2147483647 : Int32)) % (5 : Int32)) = (1 : Int32) := q3
    have c41 : Steps p.tables e below S0 (s₁.setTop (mkF m 6 #[.val (.int i0), .val (.int i1), .val (.int i2), .val (.int i3), .val (.int i4), .unset, .unset, .unset, .unset, .unset, .unset, .unset, .unset, .unset] [(.int (1 : Int32))])) := by have q := c2; rw [eq41] at q; exact q
    have c42 : Steps p.tables e below S0 (s₁.setTop (mkF m 9 #[.val (.int i0), .val (.int i1), .val (.int i2), .val (.int i3), .val (.int i4), .val (.int (1 : Int32)), .unset, .unset, .unset, .unset, .unset, .unset, .unset, .unset] [(.int i1)])) := c41.trans (by
      refine XS.istore X0.here hx rfl (hb hby at_6) rfl (l' := #[.val (.int i0), .val (.int i1), .val (.int i2), .val (.int i3), .val (.int i4), .val (.int (1 : Int32)), .unset, .unset, .unset, .unset, .unset, .unset, .unset, .unset]) rfl ?_
      refine XS.iloadN X0.here hx rfl (hb hby at_8) rfl ?_
      exact Steps.refl _)
    obtain ⟨v43, T43, L43, X43, ⟨N43', k43, hB43, rfl, e43⟩, c43'⟩ := own_stat X0 hx hml hZ hown (hw _ (List.mem_of_getElem? (i := 1) rfl)) (hw _ (List.mem_of_getElem? (i := 2) rfl)) (hw _ (List.mem_of_getElem? (i := 3) rfl)) (hw _ (List.mem_of_getElem? (i := 4) rfl)) (by decide) (kc := 0) (ks := 0) (h := h0) (W := 0) (argsL := [(.int i1)]) (rest := []) (own_pay (W := 0) (rmDraw l Z a0 hw i1 h0 O0) hZ (hw _ (List.mem_of_getElem? (i := 4) rfl)) (hw _ (List.mem_of_getElem? (i := 3) rfl)) (by decide) (by decide)) c42 (lenOf pd_17 rfl) rfl (hb hby at_9) e0
    have N43 := Fr.app N0 N43'
    have c43 : Steps p.tables e below S0 (T43.setTop (mkF m 12 #[.val (.int i0), .val (.int i1), .val (.int i2), .val (.int i3), .val (.int i4), .val (.int (1 : Int32)), .unset, .unset, .unset, .unset, .unset, .unset, .unset, .unset] [(.int k43)])) := c43'
    have c44 : Steps p.tables e below S0 (T43.setTop (mkF m 15 #[.val (.int i0), .val (.int i1), .val (.int i2), .val (.int i3), .val (.int i4), .val (.int (1 : Int32)), .val (.int k43), .unset, .unset, .unset, .unset, .unset, .unset, .unset] [(.int i2)])) := c43.trans (by
      refine XS.istore X43.here hx rfl (hb hby at_12) rfl (l' := #[.val (.int i0), .val (.int i1), .val (.int i2), .val (.int i3), .val (.int i4), .val (.int (1 : Int32)), .val (.int k43), .unset, .unset, .unset, .unset, .unset, .unset, .unset]) rfl ?_
      refine XS.iloadN X43.here hx rfl (hb hby at_14) rfl ?_
      exact Steps.refl _)
    obtain ⟨v45, T45, L45, X45, ⟨N45', k45, hB45, rfl, e45⟩, c45'⟩ := own_stat X43 hx hml hZ hown (hw _ (List.mem_of_getElem? (i := 1) rfl)) (hw _ (List.mem_of_getElem? (i := 2) rfl)) (hw _ (List.mem_of_getElem? (i := 3) rfl)) (hw _ (List.mem_of_getElem? (i := 4) rfl)) (by decide) (kc := 0) (ks := 0) (h := h0) (W := 0) (argsL := [(.int i2)]) (rest := []) (own_pay (W := 0) (rmDraw l Z a0 hw i2 h0 O0) hZ (hw _ (List.mem_of_getElem? (i := 4) rfl)) (hw _ (List.mem_of_getElem? (i := 3) rfl)) (by decide) (by decide)) c44 (lenOf pd_17 rfl) rfl (hb hby at_15) e43
    have N45 := Fr.app N43 N45'
    have c45 : Steps p.tables e below S0 (T45.setTop (mkF m 18 #[.val (.int i0), .val (.int i1), .val (.int i2), .val (.int i3), .val (.int i4), .val (.int (1 : Int32)), .val (.int k43), .unset, .unset, .unset, .unset, .unset, .unset, .unset] [(.int k45)])) := c45'
    have c46 : Steps p.tables e below S0 (T45.setTop (mkF m 21 #[.val (.int i0), .val (.int i1), .val (.int i2), .val (.int i3), .val (.int i4), .val (.int (1 : Int32)), .val (.int k43), .val (.int k45), .unset, .unset, .unset, .unset, .unset, .unset] [(.int i3)])) := c45.trans (by
      refine XS.istore X45.here hx rfl (hb hby at_18) rfl (l' := #[.val (.int i0), .val (.int i1), .val (.int i2), .val (.int i3), .val (.int i4), .val (.int (1 : Int32)), .val (.int k43), .val (.int k45), .unset, .unset, .unset, .unset, .unset, .unset]) rfl ?_
      refine XS.iloadN X45.here hx rfl (hb hby at_20) rfl ?_
      exact Steps.refl _)
    obtain ⟨v47, T47, L47, X47, ⟨N47', k47, hB47, rfl, e47⟩, c47'⟩ := own_stat X45 hx hml hZ hown (hw _ (List.mem_of_getElem? (i := 1) rfl)) (hw _ (List.mem_of_getElem? (i := 2) rfl)) (hw _ (List.mem_of_getElem? (i := 3) rfl)) (hw _ (List.mem_of_getElem? (i := 4) rfl)) (by decide) (kc := 0) (ks := 0) (h := h0) (W := 0) (argsL := [(.int i3)]) (rest := []) (own_pay (W := 0) (rmDraw l Z a0 hw i3 h0 O0) hZ (hw _ (List.mem_of_getElem? (i := 4) rfl)) (hw _ (List.mem_of_getElem? (i := 3) rfl)) (by decide) (by decide)) c46 (lenOf pd_17 rfl) rfl (hb hby at_21) e45
    have N47 := Fr.app N45 N47'
    have c47 : Steps p.tables e below S0 (T47.setTop (mkF m 24 #[.val (.int i0), .val (.int i1), .val (.int i2), .val (.int i3), .val (.int i4), .val (.int (1 : Int32)), .val (.int k43), .val (.int k45), .unset, .unset, .unset, .unset, .unset, .unset] [(.int k47)])) := c47'
    have c48 : Steps p.tables e below S0 (T47.setTop (mkF m 28 #[.val (.int i0), .val (.int i1), .val (.int i2), .val (.int i3), .val (.int i4), .val (.int (1 : Int32)), .val (.int k43), .val (.int k45), .val (.int k47), .unset, .unset, .unset, .unset, .unset] [(.int i4)])) := c47.trans (by
      refine XS.istore X47.here hx rfl (hb hby at_24) rfl (l' := #[.val (.int i0), .val (.int i1), .val (.int i2), .val (.int i3), .val (.int i4), .val (.int (1 : Int32)), .val (.int k43), .val (.int k45), .val (.int k47), .unset, .unset, .unset, .unset, .unset]) rfl ?_
      refine XS.iload X47.here hx rfl (hb hby at_26) rfl ?_
      exact Steps.refl _)
    obtain ⟨v49, T49, L49, X49, ⟨N49', k49, hB49, rfl, e49⟩, c49'⟩ := own_stat X47 hx hml hZ hown (hw _ (List.mem_of_getElem? (i := 1) rfl)) (hw _ (List.mem_of_getElem? (i := 2) rfl)) (hw _ (List.mem_of_getElem? (i := 3) rfl)) (hw _ (List.mem_of_getElem? (i := 4) rfl)) (by decide) (kc := 0) (ks := 0) (h := h0) (W := 0) (argsL := [(.int i4)]) (rest := []) (own_pay (W := 0) (rmDraw l Z a0 hw i4 h0 O0) hZ (hw _ (List.mem_of_getElem? (i := 4) rfl)) (hw _ (List.mem_of_getElem? (i := 3) rfl)) (by decide) (by decide)) c48 (lenOf pd_17 rfl) rfl (hb hby at_28) e47
    have N49 := Fr.app N47 N49'
    have c49 : Steps p.tables e below S0 (T49.setTop (mkF m 31 #[.val (.int i0), .val (.int i1), .val (.int i2), .val (.int i3), .val (.int i4), .val (.int (1 : Int32)), .val (.int k43), .val (.int k45), .val (.int k47), .unset, .unset, .unset, .unset, .unset] [(.int k49)])) := c49'
    have c50 : Steps p.tables e below S0 (T49.setTop (mkF m 43 #[.val (.int i0), .val (.int i1), .val (.int i2), .val (.int i3), .val (.int i4), .val (.int (1 : Int32)), .val (.int k43), .val (.int k45), .val (.int k47), .val (.int k49), .unset, .unset, .unset, .unset] [(.int k49), (.int k47), (.int k45), (.int k43), (.int (1 : Int32))])) := c49.trans (by
      refine XS.istore X49.here hx rfl (hb hby at_31) rfl (l' := #[.val (.int i0), .val (.int i1), .val (.int i2), .val (.int i3), .val (.int i4), .val (.int (1 : Int32)), .val (.int k43), .val (.int k45), .val (.int k47), .val (.int k49), .unset, .unset, .unset, .unset]) rfl ?_
      refine XS.iload X49.here hx rfl (hb hby at_33) rfl ?_
      refine XS.iload X49.here hx rfl (hb hby at_35) rfl ?_
      refine XS.iload X49.here hx rfl (hb hby at_37) rfl ?_
      refine XS.iload X49.here hx rfl (hb hby at_39) rfl ?_
      refine XS.iload X49.here hx rfl (hb hby at_41) rfl ?_
      exact Steps.refl _)
    obtain ⟨v51, T51, L51, X51, hS51, hZ51, hown51, R51, ⟨N51', x51, t51, kb51, rfl, K51, lo51, E51, V51, Cd51, Kb51⟩, c51'⟩ := own_wstat X49 hx hml hZ hown hS0 hk0 (hw _ (List.mem_of_getElem? (i := 5) rfl)) (hw _ (List.mem_of_getElem? (i := 6) rfl)) (hw _ (List.mem_of_getElem? (i := 3) rfl)) (hw _ (List.mem_of_getElem? (i := 7) rfl)) (by decide) (kc := 6) (ks := 40) (h := h0) (W := 0) (argsL := [(.int (1 : Int32)), (.int k43), (.int k45), (.int k47), (.int k49)]) (rest := []) (own_wpay (W := 0) (rmMk1 l Z a0 hw hEL k43 k45 k47 k49 z fm h0 O0 hB43 hB45 hB47 hB49 SC hz SF hfm) hZ (hw _ (List.mem_of_getElem? (i := 7) rfl)) (hw _ (List.mem_of_getElem? (i := 3) rfl)) (by decide) (by decide) hEL CR0.1 all0) c50 (lenOf pd_23 rfl) rfl (hb hby at_43) e49
    have N51 := Fr.app N49 N51'
    have CR51 := CR0.trans R51
    have c51 : Steps p.tables e below S0 (T51.setTop (mkF m 46 #[.val (.int i0), .val (.int i1), .val (.int i2), .val (.int i3), .val (.int i4), .val (.int (1 : Int32)), .val (.int k43), .val (.int k45), .val (.int k47), .val (.int k49), .unset, .unset, .unset, .unset] [(.ref x51)])) := c51'
    obtain ⟨T52, h52, k52, X52, e52, E52, A52, st52⟩ := newP X51 hx hZ51 (hw _ (List.mem_of_getElem? (i := 11) rfl)) rfl (g := (mkF m 50 #[.val (.int i0), .val (.int i1), .val (.int i2), .val (.int i3), .val (.int i4), .val (.int (1 : Int32)), .val (.int k43), .val (.int k45), .val (.int k47), .val (.int k49), .val (.ref x51), .unset, .unset, .unset] [(.int (8 : Int32))])) rfl (hb hby at_50) rfl (by decide) (cap := 8) (by decide) (by decide) (by decide) (by decide)
    obtain ⟨b52, g52⟩ : ∃ z, z = T51.heap.size := ⟨_, rfl⟩
    rw [← g52] at A52 st52
    have lo52 : T51.heap.size ≤ b52 := Nat.le_of_eq g52.symm
    have ge52 : Z.heap.size ≤ b52 := Nat.le_trans (O0.keep K51 all0).2.1 lo52
    have R52 := CHr.ext (EL := EL) E52 CR51.1
    have sf52 := Safe.ext E52 CR51.1 (Safe.new lo52)
    have CR52 := CR51.trans R52
    have hk52 := Nat.le_trans (Nat.le_refl _) R52.2.1
    have V52 := Arv.new A52 (by decide)
    have V52a : Arv Z h52 b52 k52 .char (8 : Int32) [(.int (0 : Int32)), (.int (0 : Int32)), (.int (0 : Int32)), (.int (0 : Int32)), (.int (0 : Int32)), (.int (0 : Int32)), (.int (0 : Int32)), (.int (0 : Int32))] (.int (0 : Int32)) := V52.pad (pad_rep [] (.int (0 : Int32)) 8)
    have c53 : Steps p.tables e below S0 (T52.setTop (mkF m 68 #[.val (.int i0), .val (.int i1), .val (.int i2), .val (.int i3), .val (.int i4), .val (.int (1 : Int32)), .val (.int k43), .val (.int k45), .val (.int k47), .val (.int k49), .val (.ref x51), .val (.ref b52), .val (.int (0 : Int32)), .unset] [(.int k43), (.int (0 : Int32)), (.ref b52)])) := c51.trans (by
      refine XS.astore X51.here hx rfl (hb hby at_46) rfl rfl (l' := #[.val (.int i0), .val (.int i1), .val (.int i2), .val (.int i3), .val (.int i4), .val (.int (1 : Int32)), .val (.int k43), .val (.int k45), .val (.int k47), .val (.int k49), .val (.ref x51), .unset, .unset, .unset]) rfl ?_
      refine XS.bipush X51.here hx rfl (hb hby at_48) ?_
      refine st52 _ ?_
      refine XS.astore X52.here hx rfl (hb hby at_52) rfl rfl (l' := #[.val (.int i0), .val (.int i1), .val (.int i2), .val (.int i3), .val (.int i4), .val (.int (1 : Int32)), .val (.int k43), .val (.int k45), .val (.int k47), .val (.int k49), .val (.ref x51), .val (.ref b52), .unset, .unset]) rfl ?_
      refine XS.iconst X52.here hx rfl (hb hby at_54) ?_
      refine XS.istore X52.here hx rfl (hb hby at_55) rfl (l' := #[.val (.int i0), .val (.int i1), .val (.int i2), .val (.int i3), .val (.int i4), .val (.int (1 : Int32)), .val (.int k43), .val (.int k45), .val (.int k47), .val (.int k49), .val (.ref x51), .val (.ref b52), .val (.int (0 : Int32)), .unset]) rfl ?_
      refine XS.iload X52.here hx rfl (hb hby at_57) rfl ?_
      refine XS.ifNo X52.here hx rfl (hb hby at_59) rfl ((if0 _ _).trans (tlt (by decide : (0 : Int32) < (1 : Int32))).2.2.2) ?_
      refine XS.aload X52.here hx rfl (hb hby at_62) rfl rfl ?_
      show Steps p.tables e below (T52.setTop (mkF m 64 #[.val (.int i0), .val (.int i1), .val (.int i2), .val (.int i3), .val (.int i4), .val (.int (1 : Int32)), .val (.int k43), .val (.int k45), .val (.int k47), .val (.int k49), .val (.ref x51), .val (.ref b52), .val (.int (0 : Int32)), .unset] [(.ref b52)])) _
      refine XS.iload X52.here hx rfl (hb hby at_64) rfl ?_
      refine XS.iload X52.here hx rfl (hb hby at_66) rfl ?_
      exact Steps.refl _)
    obtain ⟨v54, T54, L54, X54, ⟨N54', rfl, K54, Vo54⟩, c54'⟩ := own_stat X52 hx hml hZ51 hown51 (hw _ (List.mem_of_getElem? (i := 59) rfl)) (hw _ (List.mem_of_getElem? (i := 60) rfl)) (hw _ (List.mem_of_getElem? (i := 3) rfl)) (hw _ (List.mem_of_getElem? (i := 61) rfl)) (by decide) (kc := 0) (ks := 0) (h := h52) (W := 0) (argsL := [(.ref b52), (.int (0 : Int32)), (.int k43)]) (rest := []) (own_pay (R := room_1) (s := (s.setVm T51.vm)) (W := 0) (rmPut l Z a0 hw [] b52 k52 k43 h52 ((O0.keep K51 all0).ext E52) V52 hB43 (Nat.le_trans (Nat.add_le_add_right (Nat.le_refl 0) 2) (by decide)) ge52) hZ51 (hw _ (List.mem_of_getElem? (i := 61) rfl)) (hw _ (List.mem_of_getElem? (i := 3) rfl)) (by decide) (by decide)) c53 (lenOf pd_26 rfl) rfl (hb hby at_68) e52
    have N54 := Fr.app N51 N54'
    have R54 := CHr.keep K54 (sfS sf52 sf0) CR52.1
    have CR54 := CR52.trans R54
    have hk54 := Nat.le_trans hk52 R54.2.1
    have c54 : Steps p.tables e below S0 (T54.setTop (mkF m 71 #[.val (.int i0), .val (.int i1), .val (.int i2), .val (.int i3), .val (.int i4), .val (.int (1 : Int32)), .val (.int k43), .val (.int k45), .val (.int k47), .val (.int k49), .val (.ref x51), .val (.ref b52), .val (.int (0 : Int32)), .unset] [(.int (Int32.ofNat ([] ++ own_e1 k43).length))])) := c54'
    have c55 : Steps p.tables e below S0 (T54.setTop (mkF m 124 #[.val (.int i0), .val (.int i1), .val (.int i2), .val (.int i3), .val (.int i4), .val (.int (1 : Int32)), .val (.int k43), .val (.int k45), .val (.int k47), .val (.int k49), .val (.ref x51), .val (.ref b52), .val (.int (Int32.ofNat ([] ++ own_e1 k43).length)), .unset] [])) := c54.trans (by
      refine XS.istore X54.here hx rfl (hb hby at_71) rfl (l' := #[.val (.int i0), .val (.int i1), .val (.int i2), .val (.int i3), .val (.int i4), .val (.int (1 : Int32)), .val (.int k43), .val (.int k45), .val (.int k47), .val (.int k49), .val (.ref x51), .val (.ref b52), .val (.int (Int32.ofNat ([] ++ own_e1 k43).length)), .unset]) rfl ?_
      refine XS.iload X54.here hx rfl (hb hby at_73) rfl ?_
      refine XS.iconst X54.here hx rfl (hb hby at_75) ?_
      refine XS.icmpYes X54.here hx rfl (pc0 := 76) (pc' := 90) rfl (hb hby at_76) rfl (flt (by decide : ¬ ((1 : Int32) < (1 : Int32)))).2.2.2 (by decide) (by decide) ?_
      refine XS.iload X54.here hx rfl (hb hby at_90) rfl ?_
      refine XS.iconst X54.here hx rfl (hb hby at_92) ?_
      refine XS.icmpYes X54.here hx rfl (pc0 := 93) (pc' := 107) rfl (hb hby at_93) rfl (flt (by decide : ¬ ((2 : Int32) < (1 : Int32)))).2.2.2 (by decide) (by decide) ?_
      refine XS.iload X54.here hx rfl (hb hby at_107) rfl ?_
      refine XS.iconst X54.here hx rfl (hb hby at_109) ?_
      show Steps p.tables e below (T54.setTop (mkF m 110 #[.val (.int i0), .val (.int i1), .val (.int i2), .val (.int i3), .val (.int i4), .val (.int (1 : Int32)), .val (.int k43), .val (.int k45), .val (.int k47), .val (.int k49), .val (.ref x51), .val (.ref b52), .val (.int (Int32.ofNat ([] ++ own_e1 k43).length)), .unset] [(.int (3 : Int32)), (.int (1 : Int32))])) _
      refine XS.icmpYes X54.here hx rfl (pc0 := 110) (pc' := 124) rfl (hb hby at_110) rfl (flt (by decide : ¬ ((3 : Int32) < (1 : Int32)))).2.2.2 (by decide) (by decide) ?_
      exact Steps.refl _)
    have hes : ([] ++ own_e1 k43) = (own_esc [k43]) := by simp [own_esc]
    have Vs56 : Arv Z T54.heap b52 k52 .char (8 : Int32) ((own_esc [k43]).map Value.int) (.int (0 : Int32)) := by rw [← hes]; exact Vo54
    have hel : (own_esc [k43]).length ≤ 2 := own_escL [k43]
    have hBs : ∀ c ∈ [k43], own_B c := (own_cons hB43 own_nil)
    have eq57 : (Int32.ofNat ([] ++ own_e1 k43).length) = (Int32.ofNat ((own_esc [k43]) : List Int32).length) := by rw [hes]
    have c57 : Steps p.tables e below S0 (T54.setTop (mkF m 124 #[.val (.int i0), .val (.int i1), .val (.int i2), .val (.int i3), .val (.int i4), .val (.int (1 : Int32)), .val (.int k43), .val (.int k45), .val (.int k47), .val (.int k49), .val (.ref x51), .val (.ref b52), .val (.int (Int32.ofNat ((own_esc [k43]) : List Int32).length)), .unset] [])) := by have q := c55; rw [eq57] at q; exact q
    have c58 : Steps p.tables e below S0 (T54.setTop (mkF m 126 #[.val (.int i0), .val (.int i1), .val (.int i2), .val (.int i3), .val (.int i4), .val (.int (1 : Int32)), .val (.int k43), .val (.int k45), .val (.int k47), .val (.int k49), .val (.ref x51), .val (.ref b52), .val (.int (Int32.ofNat ((own_esc [k43]) : List Int32).length)), .unset] [(.ref x51)])) := c57.trans (by
      refine XS.aload X54.here hx rfl (hb hby at_124) rfl rfl ?_
      exact Steps.refl _)
    obtain ⟨v59, T59, L59, X59, ⟨N59', r59, t59, kb59, rfl, K59, E59, V59, Cd59, Kb59, hd59⟩, c59'⟩ := own_stat X54 hx hml hZ51 hown51 (hw _ (List.mem_of_getElem? (i := 30) rfl)) (hw _ (List.mem_of_getElem? (i := 31) rfl)) (hw _ (List.mem_of_getElem? (i := 32) rfl)) (hw _ (List.mem_of_getElem? (i := 33) rfl)) (by decide) (kc := 12) (ks := 120) (h := T54.heap) (W := 0) (argsL := [(.ref x51)]) (rest := []) (own_pay (W := 0) (rmEsc l Z a0 hw [k43] x51 t51 kb51 z fm fo T54.heap (((O0.keep K51 all0).ext E52).keep K54 (allS ge52 all0)) ((E51.ext E52).keep K54) ((V51.ext E52).keep K54 (ninS (Nat.ne_of_lt (Nat.lt_of_lt_of_le E51.lt lo52)) nin0)) ((Cd51.ext E52).keep K54 (ninS (Nat.ne_of_lt (Nat.lt_of_lt_of_le E51.lt lo52)) nin0)) ((Kb51.ext E52).keep K54 (ninS (Nat.ne_of_lt (Nat.lt_of_lt_of_le Kb51.lt lo52)) nin0)) (by show 1 ≤ 4; decide) hBs SC hz SF hfm SI hfo) hZ51 (hw _ (List.mem_of_getElem? (i := 33) rfl)) (hw _ (List.mem_of_getElem? (i := 32) rfl)) (by decide) (by decide)) c58 (lenOf pd_24 rfl) rfl (hb hby at_126) rfl
    have N59 := Fr.app N54 N59'
    have R59 := CHr.keep K59 sf0 CR54.1
    have CR59 := CR54.trans R59
    have hk59 := Nat.le_trans hk54 R59.2.1
    have c59 : Steps p.tables e below S0 (T59.setTop (mkF m 129 #[.val (.int i0), .val (.int i1), .val (.int i2), .val (.int i3), .val (.int i4), .val (.int (1 : Int32)), .val (.int k43), .val (.int k45), .val (.int k47), .val (.int k49), .val (.ref x51), .val (.ref b52), .val (.int (Int32.ofNat ((own_esc [k43]) : List Int32).length)), .unset] [(.ref r59)])) := c59'
    have c60 : Steps p.tables e below S0 (T59.setTop (mkF m 133 #[.val (.int i0), .val (.int i1), .val (.int i2), .val (.int i3), .val (.int i4), .val (.int (1 : Int32)), .val (.int k43), .val (.int k45), .val (.int k47), .val (.int k49), .val (.ref x51), .val (.ref b52), .val (.int (Int32.ofNat ((own_esc [k43]) : List Int32).length)), .val (.ref r59)] [(.ref r59)])) := c59.trans (by
      refine XS.astore X59.here hx rfl (hb hby at_129) rfl rfl (l' := #[.val (.int i0), .val (.int i1), .val (.int i2), .val (.int i3), .val (.int i4), .val (.int (1 : Int32)), .val (.int k43), .val (.int k45), .val (.int k47), .val (.int k49), .val (.ref x51), .val (.ref b52), .val (.int (Int32.ofNat ((own_esc [k43]) : List Int32).length)), .val (.ref r59)]) rfl ?_
      refine XS.aload X59.here hx rfl (hb hby at_131) rfl rfl ?_
      exact Steps.refl _)
    obtain ⟨v61, T61, L61, X61, ⟨rfl, rfl, e61⟩, c61'⟩ := own_virt X59 hx hml hZ51 hown51 (hw _ (List.mem_of_getElem? (i := 45) rfl)) (hw _ (List.mem_of_getElem? (i := 35) rfl)) (hw _ (List.mem_of_getElem? (i := 37) rfl)) (hw _ (List.mem_of_getElem? (i := 36) rfl)) (hw _ (List.mem_of_getElem? (i := 37) rfl)) (by decide) (Q := fun v h' L => v = some (.int (Int32.ofNat ((own_esc [k43]) : List Int32).length)) ∧ L = [] ∧ h' = T59.heap) (kc := 0) (ks := 0) (h := T59.heap) (W := 0) (b := r59) (argsL := []) (rest := []) (StrChars.Road.lenW (s := (s.setVm T51.vm)) (R := room_1) (W := 0) hZ51 (own_wl hw) (kI := 4) (hw _ (List.mem_of_getElem? (i := 9) rfl)) (cs := (own_esc [k43])) E59 V59 Cd59 Kb59 (StrChars.Road.codOf (n := ((own_esc [k43]) : List Int32).length) rfl (fun c hc => ((own_escB hBs) c hc).rng.2)) (fun c hc => ((own_escB hBs) c hc).rng2) (SC.ext ((((O0.keep K51 all0).ext E52).keep K54 (allS ge52 all0)).keep K59 all0).2) hz (Nat.le_trans hel (by decide)) (by decide) (by decide)) E59 c60 (lenOf pd_9 rfl) rfl (hb hby at_133) rfl
    have N61 := Fr.app N59 (Fr.nil _)
    have c61 : Steps p.tables e below S0 (T61.setTop (mkF m 136 #[.val (.int i0), .val (.int i1), .val (.int i2), .val (.int i3), .val (.int i4), .val (.int (1 : Int32)), .val (.int k43), .val (.int k45), .val (.int k47), .val (.int k49), .val (.ref x51), .val (.ref b52), .val (.int (Int32.ofNat ((own_esc [k43]) : List Int32).length)), .val (.ref r59)] [(.int (Int32.ofNat ((own_esc [k43]) : List Int32).length))])) := c61'
    have c62 : Steps p.tables e below S0 (T61.setTop (mkF m 147 #[.val (.int i0), .val (.int i1), .val (.int i2), .val (.int i3), .val (.int i4), .val (.int (1 : Int32)), .val (.int k43), .val (.int k45), .val (.int k47), .val (.int k49), .val (.ref x51), .val (.ref b52), .val (.int (Int32.ofNat ((own_esc [k43]) : List Int32).length)), .val (.ref r59)] [(.int (1 : Int32)), (.int (Int32.ofNat ((own_esc [k43]) : List Int32).length))])) := c61.trans (by
      refine XS.iload X61.here hx rfl (hb hby at_136) rfl ?_
      refine XS.icmpYes X61.here hx rfl (pc0 := 138) (pc' := 143) rfl (hb hby at_138) rfl (teq (rfl : (Int32.ofNat ((own_esc [k43]) : List Int32).length) = (Int32.ofNat ((own_esc [k43]) : List Int32).length))).1 (by decide) (by decide) ?_
      refine XS.iload X61.here hx rfl (hb hby at_143) rfl ?_
      refine XS.iload X61.here hx rfl (hb hby at_145) rfl ?_
      exact Steps.refl _)
    rcases hd59 with ⟨hr59, he59⟩ | hg59
    · skip
      have c63 : Steps p.tables e below S0 (T61.setTop (mkF m 166 #[.val (.int i0), .val (.int i1), .val (.int i2), .val (.int i3), .val (.int i4), .val (.int (1 : Int32)), .val (.int k43), .val (.int k45), .val (.int k47), .val (.int k49), .val (.ref x51), .val (.ref b52), .val (.int (Int32.ofNat ((own_esc [k43]) : List Int32).length)), .val (.ref r59)] [(.int (0 : Int32)), (.int (Int32.ofNat ((own_esc [k43]) : List Int32).length)), (.ref b52), (.ref r59)])) := c62.trans (by
        refine XS.icmpNo X61.here hx rfl (hb hby at_147) rfl (teq (by rw [he59]; rfl)).2 ?_
        refine XS.aload X61.here hx rfl (hb hby at_150) rfl rfl ?_
        refine XS.aload X61.here hx rfl (hb hby at_152) rfl rfl ?_
        refine Jvm.RoadKit.acmp (g := (mkF m 154 #[.val (.int i0), .val (.int i1), .val (.int i2), .val (.int i3), .val (.int i4), .val (.int (1 : Int32)), .val (.int k43), .val (.int k45), .val (.int k47), .val (.int k49), .val (.ref x51), .val (.ref b52), .val (.int (Int32.ofNat ((own_esc [k43]) : List Int32).length)), .val (.ref r59)] [(.ref x51), (.ref r59)])) X61 hx rfl rfl rfl (pc0 := 154) (pc' := 159) (same := true) rfl (hb hby at_154) rfl (decide_eq_true (congrArg Value.ref hr59)) (by decide) (by decide) ?_
        refine XS.aload X61.here hx rfl (hb hby at_159) rfl rfl ?_
        refine XS.aload X61.here hx rfl (hb hby at_161) rfl rfl ?_
        refine XS.iload X61.here hx rfl (hb hby at_163) rfl ?_
        refine XS.iconst X61.here hx rfl (hb hby at_165) ?_
        exact Steps.refl _)
      obtain ⟨v64, T64, L64, X64, ⟨N64', rfl, e64⟩, c64'⟩ := own_stat X61 hx hml hZ51 hown51 (hw _ (List.mem_of_getElem? (i := 46) rfl)) (hw _ (List.mem_of_getElem? (i := 47) rfl)) (hw _ (List.mem_of_getElem? (i := 3) rfl)) (hw _ (List.mem_of_getElem? (i := 48) rfl)) (by decide) (kc := 0) (ks := 0) (h := T59.heap) (W := 0) (argsL := [(.ref r59), (.ref b52), (.int (Int32.ofNat ((own_esc [k43]) : List Int32).length)), (.int (0 : Int32))]) (rest := []) (own_pay (W := 0) (rmAt l Z a0 hw (own_esc [k43]) r59 t59 kb59 b52 k52 0 z fm T59.heap ((((O0.keep K51 all0).ext E52).keep K54 (allS ge52 all0)).keep K59 all0) E59 V59 Cd59 Kb59 (Vs56.keep K59 nin0) (own_escB hBs) (by decide) (Nat.le_trans hel (by decide)) SC hz SF hfm) hZ51 (hw _ (List.mem_of_getElem? (i := 48) rfl)) (hw _ (List.mem_of_getElem? (i := 3) rfl)) (by decide) (by decide)) c63 (lenOf pd_25 rfl) rfl (hb hby at_166) e61
      have N64 := Fr.app N61 N64'
      have c64 : Steps p.tables e below S0 (T64.setTop (mkF m 169 #[.val (.int i0), .val (.int i1), .val (.int i2), .val (.int i3), .val (.int i4), .val (.int (1 : Int32)), .val (.int k43), .val (.int k45), .val (.int k47), .val (.int k49), .val (.ref x51), .val (.ref b52), .val (.int (Int32.ofNat ((own_esc [k43]) : List Int32).length)), .val (.ref r59)] [(.int (1 : Int32))])) := c64'
      have c65 : Steps p.tables e below S0 (T64.setTop (mkF m 179 #[.val (.int i0), .val (.int i1), .val (.int i2), .val (.int i3), .val (.int i4), .val (.int (1 : Int32)), .val (.int k43), .val (.int k45), .val (.int k47), .val (.int k49), .val (.ref x51), .val (.ref b52), .val (.int (Int32.ofNat ((own_esc [k43]) : List Int32).length)), .val (.ref r59)] [(.int (1 : Int32)), (.int (Int32.ofNat ((own_esc [k43]) : List Int32).length)), (.ref b52), (.ref r59)])) := c64.trans (by
        refine XS.ifNo X64.here hx rfl (hb hby at_169) rfl ((if0 _ _).trans (feq (by decide : ¬ ((1 : Int32) = (0 : Int32)))).1) ?_
        refine XS.aload X64.here hx rfl (hb hby at_172) rfl rfl ?_
        refine XS.aload X64.here hx rfl (hb hby at_174) rfl rfl ?_
        refine XS.iload X64.here hx rfl (hb hby at_176) rfl ?_
        refine XS.iconst X64.here hx rfl (hb hby at_178) ?_
        exact Steps.refl _)
      obtain ⟨v66, T66, L66, X66, ⟨N66', rfl, e66⟩, c66'⟩ := own_stat X64 hx hml hZ51 hown51 (hw _ (List.mem_of_getElem? (i := 46) rfl)) (hw _ (List.mem_of_getElem? (i := 47) rfl)) (hw _ (List.mem_of_getElem? (i := 3) rfl)) (hw _ (List.mem_of_getElem? (i := 48) rfl)) (by decide) (kc := 0) (ks := 0) (h := T59.heap) (W := 0) (argsL := [(.ref r59), (.ref b52), (.int (Int32.ofNat ((own_esc [k43]) : List Int32).length)), (.int (1 : Int32))]) (rest := []) (own_pay (W := 0) (rmAt l Z a0 hw (own_esc [k43]) r59 t59 kb59 b52 k52 1 z fm T59.heap ((((O0.keep K51 all0).ext E52).keep K54 (allS ge52 all0)).keep K59 all0) E59 V59 Cd59 Kb59 (Vs56.keep K59 nin0) (own_escB hBs) (by decide) (Nat.le_trans hel (by decide)) SC hz SF hfm) hZ51 (hw _ (List.mem_of_getElem? (i := 48) rfl)) (hw _ (List.mem_of_getElem? (i := 3) rfl)) (by decide) (by decide)) c65 (lenOf pd_25 rfl) rfl (hb hby at_179) e64
      have N66 := Fr.app N64 N66'
      have c66 : Steps p.tables e below S0 (T66.setTop (mkF m 182 #[.val (.int i0), .val (.int i1), .val (.int i2), .val (.int i3), .val (.int i4), .val (.int (1 : Int32)), .val (.int k43), .val (.int k45), .val (.int k47), .val (.int k49), .val (.ref x51), .val (.ref b52), .val (.int (Int32.ofNat ((own_esc [k43]) : List Int32).length)), .val (.ref r59)] [(.int (1 : Int32))])) := c66'
      have c67 : Steps p.tables e below S0 (T66.setTop (mkF m 192 #[.val (.int i0), .val (.int i1), .val (.int i2), .val (.int i3), .val (.int i4), .val (.int (1 : Int32)), .val (.int k43), .val (.int k45), .val (.int k47), .val (.int k49), .val (.ref x51), .val (.ref b52), .val (.int (Int32.ofNat ((own_esc [k43]) : List Int32).length)), .val (.ref r59)] [(.int (2 : Int32)), (.int (Int32.ofNat ((own_esc [k43]) : List Int32).length)), (.ref b52), (.ref r59)])) := c66.trans (by
        refine XS.ifNo X66.here hx rfl (hb hby at_182) rfl ((if0 _ _).trans (feq (by decide : ¬ ((1 : Int32) = (0 : Int32)))).1) ?_
        refine XS.aload X66.here hx rfl (hb hby at_185) rfl rfl ?_
        refine XS.aload X66.here hx rfl (hb hby at_187) rfl rfl ?_
        refine XS.iload X66.here hx rfl (hb hby at_189) rfl ?_
        refine XS.iconst X66.here hx rfl (hb hby at_191) ?_
        exact Steps.refl _)
      obtain ⟨v68, T68, L68, X68, ⟨N68', rfl, e68⟩, c68'⟩ := own_stat X66 hx hml hZ51 hown51 (hw _ (List.mem_of_getElem? (i := 46) rfl)) (hw _ (List.mem_of_getElem? (i := 47) rfl)) (hw _ (List.mem_of_getElem? (i := 3) rfl)) (hw _ (List.mem_of_getElem? (i := 48) rfl)) (by decide) (kc := 0) (ks := 0) (h := T59.heap) (W := 0) (argsL := [(.ref r59), (.ref b52), (.int (Int32.ofNat ((own_esc [k43]) : List Int32).length)), (.int (2 : Int32))]) (rest := []) (own_pay (W := 0) (rmAt l Z a0 hw (own_esc [k43]) r59 t59 kb59 b52 k52 2 z fm T59.heap ((((O0.keep K51 all0).ext E52).keep K54 (allS ge52 all0)).keep K59 all0) E59 V59 Cd59 Kb59 (Vs56.keep K59 nin0) (own_escB hBs) (by decide) (Nat.le_trans hel (by decide)) SC hz SF hfm) hZ51 (hw _ (List.mem_of_getElem? (i := 48) rfl)) (hw _ (List.mem_of_getElem? (i := 3) rfl)) (by decide) (by decide)) c67 (lenOf pd_25 rfl) rfl (hb hby at_192) e66
      have N68 := Fr.app N66 N68'
      have c68 : Steps p.tables e below S0 (T68.setTop (mkF m 195 #[.val (.int i0), .val (.int i1), .val (.int i2), .val (.int i3), .val (.int i4), .val (.int (1 : Int32)), .val (.int k43), .val (.int k45), .val (.int k47), .val (.int k49), .val (.ref x51), .val (.ref b52), .val (.int (Int32.ofNat ((own_esc [k43]) : List Int32).length)), .val (.ref r59)] [(.int (1 : Int32))])) := c68'
      have c69 : Steps p.tables e below S0 (T68.setTop (mkF m 205 #[.val (.int i0), .val (.int i1), .val (.int i2), .val (.int i3), .val (.int i4), .val (.int (1 : Int32)), .val (.int k43), .val (.int k45), .val (.int k47), .val (.int k49), .val (.ref x51), .val (.ref b52), .val (.int (Int32.ofNat ((own_esc [k43]) : List Int32).length)), .val (.ref r59)] [(.int (3 : Int32)), (.int (Int32.ofNat ((own_esc [k43]) : List Int32).length)), (.ref b52), (.ref r59)])) := c68.trans (by
        refine XS.ifNo X68.here hx rfl (hb hby at_195) rfl ((if0 _ _).trans (feq (by decide : ¬ ((1 : Int32) = (0 : Int32)))).1) ?_
        refine XS.aload X68.here hx rfl (hb hby at_198) rfl rfl ?_
        refine XS.aload X68.here hx rfl (hb hby at_200) rfl rfl ?_
        refine XS.iload X68.here hx rfl (hb hby at_202) rfl ?_
        refine XS.iconst X68.here hx rfl (hb hby at_204) ?_
        exact Steps.refl _)
      obtain ⟨v70, T70, L70, X70, ⟨N70', rfl, e70⟩, c70'⟩ := own_stat X68 hx hml hZ51 hown51 (hw _ (List.mem_of_getElem? (i := 46) rfl)) (hw _ (List.mem_of_getElem? (i := 47) rfl)) (hw _ (List.mem_of_getElem? (i := 3) rfl)) (hw _ (List.mem_of_getElem? (i := 48) rfl)) (by decide) (kc := 0) (ks := 0) (h := T59.heap) (W := 0) (argsL := [(.ref r59), (.ref b52), (.int (Int32.ofNat ((own_esc [k43]) : List Int32).length)), (.int (3 : Int32))]) (rest := []) (own_pay (W := 0) (rmAt l Z a0 hw (own_esc [k43]) r59 t59 kb59 b52 k52 3 z fm T59.heap ((((O0.keep K51 all0).ext E52).keep K54 (allS ge52 all0)).keep K59 all0) E59 V59 Cd59 Kb59 (Vs56.keep K59 nin0) (own_escB hBs) (by decide) (Nat.le_trans hel (by decide)) SC hz SF hfm) hZ51 (hw _ (List.mem_of_getElem? (i := 48) rfl)) (hw _ (List.mem_of_getElem? (i := 3) rfl)) (by decide) (by decide)) c69 (lenOf pd_25 rfl) rfl (hb hby at_205) e68
      have N70 := Fr.app N68 N70'
      have c70 : Steps p.tables e below S0 (T70.setTop (mkF m 208 #[.val (.int i0), .val (.int i1), .val (.int i2), .val (.int i3), .val (.int i4), .val (.int (1 : Int32)), .val (.int k43), .val (.int k45), .val (.int k47), .val (.int k49), .val (.ref x51), .val (.ref b52), .val (.int (Int32.ofNat ((own_esc [k43]) : List Int32).length)), .val (.ref r59)] [(.int (1 : Int32))])) := c70'
      have c71 : Steps p.tables e below S0 (T70.setTop (mkF m 218 #[.val (.int i0), .val (.int i1), .val (.int i2), .val (.int i3), .val (.int i4), .val (.int (1 : Int32)), .val (.int k43), .val (.int k45), .val (.int k47), .val (.int k49), .val (.ref x51), .val (.ref b52), .val (.int (Int32.ofNat ((own_esc [k43]) : List Int32).length)), .val (.ref r59)] [(.int (4 : Int32)), (.int (Int32.ofNat ((own_esc [k43]) : List Int32).length)), (.ref b52), (.ref r59)])) := c70.trans (by
        refine XS.ifNo X70.here hx rfl (hb hby at_208) rfl ((if0 _ _).trans (feq (by decide : ¬ ((1 : Int32) = (0 : Int32)))).1) ?_
        refine XS.aload X70.here hx rfl (hb hby at_211) rfl rfl ?_
        refine XS.aload X70.here hx rfl (hb hby at_213) rfl rfl ?_
        refine XS.iload X70.here hx rfl (hb hby at_215) rfl ?_
        refine XS.iconst X70.here hx rfl (hb hby at_217) ?_
        exact Steps.refl _)
      obtain ⟨v72, T72, L72, X72, ⟨N72', rfl, e72⟩, c72'⟩ := own_stat X70 hx hml hZ51 hown51 (hw _ (List.mem_of_getElem? (i := 46) rfl)) (hw _ (List.mem_of_getElem? (i := 47) rfl)) (hw _ (List.mem_of_getElem? (i := 3) rfl)) (hw _ (List.mem_of_getElem? (i := 48) rfl)) (by decide) (kc := 0) (ks := 0) (h := T59.heap) (W := 0) (argsL := [(.ref r59), (.ref b52), (.int (Int32.ofNat ((own_esc [k43]) : List Int32).length)), (.int (4 : Int32))]) (rest := []) (own_pay (W := 0) (rmAt l Z a0 hw (own_esc [k43]) r59 t59 kb59 b52 k52 4 z fm T59.heap ((((O0.keep K51 all0).ext E52).keep K54 (allS ge52 all0)).keep K59 all0) E59 V59 Cd59 Kb59 (Vs56.keep K59 nin0) (own_escB hBs) (by decide) (Nat.le_trans hel (by decide)) SC hz SF hfm) hZ51 (hw _ (List.mem_of_getElem? (i := 48) rfl)) (hw _ (List.mem_of_getElem? (i := 3) rfl)) (by decide) (by decide)) c71 (lenOf pd_25 rfl) rfl (hb hby at_218) e70
      have N72 := Fr.app N70 N72'
      have c72 : Steps p.tables e below S0 (T72.setTop (mkF m 221 #[.val (.int i0), .val (.int i1), .val (.int i2), .val (.int i3), .val (.int i4), .val (.int (1 : Int32)), .val (.int k43), .val (.int k45), .val (.int k47), .val (.int k49), .val (.ref x51), .val (.ref b52), .val (.int (Int32.ofNat ((own_esc [k43]) : List Int32).length)), .val (.ref r59)] [(.int (1 : Int32))])) := c72'
      have c73 : Steps p.tables e below S0 (T72.setTop (mkF m 231 #[.val (.int i0), .val (.int i1), .val (.int i2), .val (.int i3), .val (.int i4), .val (.int (1 : Int32)), .val (.int k43), .val (.int k45), .val (.int k47), .val (.int k49), .val (.ref x51), .val (.ref b52), .val (.int (Int32.ofNat ((own_esc [k43]) : List Int32).length)), .val (.ref r59)] [(.int (5 : Int32)), (.int (Int32.ofNat ((own_esc [k43]) : List Int32).length)), (.ref b52), (.ref r59)])) := c72.trans (by
        refine XS.ifNo X72.here hx rfl (hb hby at_221) rfl ((if0 _ _).trans (feq (by decide : ¬ ((1 : Int32) = (0 : Int32)))).1) ?_
        refine XS.aload X72.here hx rfl (hb hby at_224) rfl rfl ?_
        refine XS.aload X72.here hx rfl (hb hby at_226) rfl rfl ?_
        refine XS.iload X72.here hx rfl (hb hby at_228) rfl ?_
        refine XS.iconst X72.here hx rfl (hb hby at_230) ?_
        exact Steps.refl _)
      obtain ⟨v74, T74, L74, X74, ⟨N74', rfl, e74⟩, c74'⟩ := own_stat X72 hx hml hZ51 hown51 (hw _ (List.mem_of_getElem? (i := 46) rfl)) (hw _ (List.mem_of_getElem? (i := 47) rfl)) (hw _ (List.mem_of_getElem? (i := 3) rfl)) (hw _ (List.mem_of_getElem? (i := 48) rfl)) (by decide) (kc := 0) (ks := 0) (h := T59.heap) (W := 0) (argsL := [(.ref r59), (.ref b52), (.int (Int32.ofNat ((own_esc [k43]) : List Int32).length)), (.int (5 : Int32))]) (rest := []) (own_pay (W := 0) (rmAt l Z a0 hw (own_esc [k43]) r59 t59 kb59 b52 k52 5 z fm T59.heap ((((O0.keep K51 all0).ext E52).keep K54 (allS ge52 all0)).keep K59 all0) E59 V59 Cd59 Kb59 (Vs56.keep K59 nin0) (own_escB hBs) (by decide) (Nat.le_trans hel (by decide)) SC hz SF hfm) hZ51 (hw _ (List.mem_of_getElem? (i := 48) rfl)) (hw _ (List.mem_of_getElem? (i := 3) rfl)) (by decide) (by decide)) c73 (lenOf pd_25 rfl) rfl (hb hby at_231) e72
      have N74 := Fr.app N72 N74'
      have c74 : Steps p.tables e below S0 (T74.setTop (mkF m 234 #[.val (.int i0), .val (.int i1), .val (.int i2), .val (.int i3), .val (.int i4), .val (.int (1 : Int32)), .val (.int k43), .val (.int k45), .val (.int k47), .val (.int k49), .val (.ref x51), .val (.ref b52), .val (.int (Int32.ofNat ((own_esc [k43]) : List Int32).length)), .val (.ref r59)] [(.int (1 : Int32))])) := c74'
      have c75 : Steps p.tables e below S0 (T74.setTop (mkF m 245 #[.val (.int i0), .val (.int i1), .val (.int i2), .val (.int i3), .val (.int i4), .val (.int (1 : Int32)), .val (.int k43), .val (.int k45), .val (.int k47), .val (.int k49), .val (.ref x51), .val (.ref b52), .val (.int (Int32.ofNat ((own_esc [k43]) : List Int32).length)), .val (.ref r59)] [(.int (6 : Int32)), (.int (Int32.ofNat ((own_esc [k43]) : List Int32).length)), (.ref b52), (.ref r59)])) := c74.trans (by
        refine XS.ifNo X74.here hx rfl (hb hby at_234) rfl ((if0 _ _).trans (feq (by decide : ¬ ((1 : Int32) = (0 : Int32)))).1) ?_
        refine XS.aload X74.here hx rfl (hb hby at_237) rfl rfl ?_
        refine XS.aload X74.here hx rfl (hb hby at_239) rfl rfl ?_
        refine XS.iload X74.here hx rfl (hb hby at_241) rfl ?_
        refine XS.bipush X74.here hx rfl (hb hby at_243) ?_
        exact Steps.refl _)
      obtain ⟨v76, T76, L76, X76, ⟨N76', rfl, e76⟩, c76'⟩ := own_stat X74 hx hml hZ51 hown51 (hw _ (List.mem_of_getElem? (i := 46) rfl)) (hw _ (List.mem_of_getElem? (i := 47) rfl)) (hw _ (List.mem_of_getElem? (i := 3) rfl)) (hw _ (List.mem_of_getElem? (i := 48) rfl)) (by decide) (kc := 0) (ks := 0) (h := T59.heap) (W := 0) (argsL := [(.ref r59), (.ref b52), (.int (Int32.ofNat ((own_esc [k43]) : List Int32).length)), (.int (6 : Int32))]) (rest := []) (own_pay (W := 0) (rmAt l Z a0 hw (own_esc [k43]) r59 t59 kb59 b52 k52 6 z fm T59.heap ((((O0.keep K51 all0).ext E52).keep K54 (allS ge52 all0)).keep K59 all0) E59 V59 Cd59 Kb59 (Vs56.keep K59 nin0) (own_escB hBs) (by decide) (Nat.le_trans hel (by decide)) SC hz SF hfm) hZ51 (hw _ (List.mem_of_getElem? (i := 48) rfl)) (hw _ (List.mem_of_getElem? (i := 3) rfl)) (by decide) (by decide)) c75 (lenOf pd_25 rfl) rfl (hb hby at_245) e74
      have N76 := Fr.app N74 N76'
      have c76 : Steps p.tables e below S0 (T76.setTop (mkF m 248 #[.val (.int i0), .val (.int i1), .val (.int i2), .val (.int i3), .val (.int i4), .val (.int (1 : Int32)), .val (.int k43), .val (.int k45), .val (.int k47), .val (.int k49), .val (.ref x51), .val (.ref b52), .val (.int (Int32.ofNat ((own_esc [k43]) : List Int32).length)), .val (.ref r59)] [(.int (1 : Int32))])) := c76'
      have c77 : Steps p.tables e below S0 (T76.setTop (mkF m 259 #[.val (.int i0), .val (.int i1), .val (.int i2), .val (.int i3), .val (.int i4), .val (.int (1 : Int32)), .val (.int k43), .val (.int k45), .val (.int k47), .val (.int k49), .val (.ref x51), .val (.ref b52), .val (.int (Int32.ofNat ((own_esc [k43]) : List Int32).length)), .val (.ref r59)] [(.int (7 : Int32)), (.int (Int32.ofNat ((own_esc [k43]) : List Int32).length)), (.ref b52), (.ref r59)])) := c76.trans (by
        refine XS.ifNo X76.here hx rfl (hb hby at_248) rfl ((if0 _ _).trans (feq (by decide : ¬ ((1 : Int32) = (0 : Int32)))).1) ?_
        refine XS.aload X76.here hx rfl (hb hby at_251) rfl rfl ?_
        refine XS.aload X76.here hx rfl (hb hby at_253) rfl rfl ?_
        refine XS.iload X76.here hx rfl (hb hby at_255) rfl ?_
        refine XS.bipush X76.here hx rfl (hb hby at_257) ?_
        exact Steps.refl _)
      obtain ⟨v78, T78, L78, X78, ⟨N78', rfl, e78⟩, c78'⟩ := own_stat X76 hx hml hZ51 hown51 (hw _ (List.mem_of_getElem? (i := 46) rfl)) (hw _ (List.mem_of_getElem? (i := 47) rfl)) (hw _ (List.mem_of_getElem? (i := 3) rfl)) (hw _ (List.mem_of_getElem? (i := 48) rfl)) (by decide) (kc := 0) (ks := 0) (h := T59.heap) (W := 0) (argsL := [(.ref r59), (.ref b52), (.int (Int32.ofNat ((own_esc [k43]) : List Int32).length)), (.int (7 : Int32))]) (rest := []) (own_pay (W := 0) (rmAt l Z a0 hw (own_esc [k43]) r59 t59 kb59 b52 k52 7 z fm T59.heap ((((O0.keep K51 all0).ext E52).keep K54 (allS ge52 all0)).keep K59 all0) E59 V59 Cd59 Kb59 (Vs56.keep K59 nin0) (own_escB hBs) (by decide) (Nat.le_trans hel (by decide)) SC hz SF hfm) hZ51 (hw _ (List.mem_of_getElem? (i := 48) rfl)) (hw _ (List.mem_of_getElem? (i := 3) rfl)) (by decide) (by decide)) c77 (lenOf pd_25 rfl) rfl (hb hby at_259) e76
      have N78 := Fr.app N76 N78'
      have c78 : Steps p.tables e below S0 (T78.setTop (mkF m 262 #[.val (.int i0), .val (.int i1), .val (.int i2), .val (.int i3), .val (.int i4), .val (.int (1 : Int32)), .val (.int k43), .val (.int k45), .val (.int k47), .val (.int k49), .val (.ref x51), .val (.ref b52), .val (.int (Int32.ofNat ((own_esc [k43]) : List Int32).length)), .val (.ref r59)] [(.int (1 : Int32))])) := c78'
      have c79 : Steps p.tables e below S0 (T78.setTop (mkF m 270 #[.val (.int i0), .val (.int i1), .val (.int i2), .val (.int i3), .val (.int i4), .val (.int (1 : Int32)), .val (.int k43), .val (.int k45), .val (.int k47), .val (.int k49), .val (.ref x51), .val (.ref b52), .val (.int (Int32.ofNat ((own_esc [k43]) : List Int32).length)), .val (.ref r59)] [(.int (1 : Int32))])) := c78.trans (by
        refine XS.ifNo X78.here hx rfl (hb hby at_262) rfl ((if0 _ _).trans (feq (by decide : ¬ ((1 : Int32) = (0 : Int32)))).1) ?_
        refine XS.iconst X78.here hx rfl (hb hby at_265) ?_
        refine XS.goto X78.here hx rfl (pc0 := 266) (pc' := 270) rfl (hb hby at_266) (by decide) (by decide) ?_
        exact Steps.refl _)
      refine ⟨T78, T51.vm, _, (some (.int (1 : Int32))), _, _, _, X78, by decide, by decide, (fun q => by cases q), N78, hS51, by rw [e78]; exact hk59, hZ51, by rw [e78]; exact CR59, ?_, fun fs hr => ?_⟩
      · skip
        exact rfl
      · exact c79.trans (retN X78 hx (t := .boolean) hret (by simp) (hb hby at_270) hr)
    · skip
      have c81 : Steps p.tables e below S0 (T61.setTop (mkF m 166 #[.val (.int i0), .val (.int i1), .val (.int i2), .val (.int i3), .val (.int i4), .val (.int (1 : Int32)), .val (.int k43), .val (.int k45), .val (.int k47), .val (.int k49), .val (.ref x51), .val (.ref b52), .val (.int (Int32.ofNat ((own_esc [k43]) : List Int32).length)), .val (.ref r59)] [(.int (0 : Int32)), (.int (Int32.ofNat ((own_esc [k43]) : List Int32).length)), (.ref b52), (.ref r59)])) := c62.trans (by
        refine XS.icmpYes X61.here hx rfl (pc0 := 147) (pc' := 159) rfl (hb hby at_147) rfl (feq (own_neN (b := 1) (Nat.lt_of_le_of_lt hel (by decide)) (by decide) (fun q => Nat.lt_irrefl _ (Nat.lt_of_lt_of_eq hg59 q)))).2 (by decide) (by decide) ?_
        refine XS.aload X61.here hx rfl (hb hby at_159) rfl rfl ?_
        refine XS.aload X61.here hx rfl (hb hby at_161) rfl rfl ?_
        refine XS.iload X61.here hx rfl (hb hby at_163) rfl ?_
        refine XS.iconst X61.here hx rfl (hb hby at_165) ?_
        exact Steps.refl _)
      obtain ⟨v82, T82, L82, X82, ⟨N82', rfl, e82⟩, c82'⟩ := own_stat X61 hx hml hZ51 hown51 (hw _ (List.mem_of_getElem? (i := 46) rfl)) (hw _ (List.mem_of_getElem? (i := 47) rfl)) (hw _ (List.mem_of_getElem? (i := 3) rfl)) (hw _ (List.mem_of_getElem? (i := 48) rfl)) (by decide) (kc := 0) (ks := 0) (h := T59.heap) (W := 0) (argsL := [(.ref r59), (.ref b52), (.int (Int32.ofNat ((own_esc [k43]) : List Int32).length)), (.int (0 : Int32))]) (rest := []) (own_pay (W := 0) (rmAt l Z a0 hw (own_esc [k43]) r59 t59 kb59 b52 k52 0 z fm T59.heap ((((O0.keep K51 all0).ext E52).keep K54 (allS ge52 all0)).keep K59 all0) E59 V59 Cd59 Kb59 (Vs56.keep K59 nin0) (own_escB hBs) (by decide) (Nat.le_trans hel (by decide)) SC hz SF hfm) hZ51 (hw _ (List.mem_of_getElem? (i := 48) rfl)) (hw _ (List.mem_of_getElem? (i := 3) rfl)) (by decide) (by decide)) c81 (lenOf pd_25 rfl) rfl (hb hby at_166) e61
      have N82 := Fr.app N61 N82'
      have c82 : Steps p.tables e below S0 (T82.setTop (mkF m 169 #[.val (.int i0), .val (.int i1), .val (.int i2), .val (.int i3), .val (.int i4), .val (.int (1 : Int32)), .val (.int k43), .val (.int k45), .val (.int k47), .val (.int k49), .val (.ref x51), .val (.ref b52), .val (.int (Int32.ofNat ((own_esc [k43]) : List Int32).length)), .val (.ref r59)] [(.int (1 : Int32))])) := c82'
      have c83 : Steps p.tables e below S0 (T82.setTop (mkF m 179 #[.val (.int i0), .val (.int i1), .val (.int i2), .val (.int i3), .val (.int i4), .val (.int (1 : Int32)), .val (.int k43), .val (.int k45), .val (.int k47), .val (.int k49), .val (.ref x51), .val (.ref b52), .val (.int (Int32.ofNat ((own_esc [k43]) : List Int32).length)), .val (.ref r59)] [(.int (1 : Int32)), (.int (Int32.ofNat ((own_esc [k43]) : List Int32).length)), (.ref b52), (.ref r59)])) := c82.trans (by
        refine XS.ifNo X82.here hx rfl (hb hby at_169) rfl ((if0 _ _).trans (feq (by decide : ¬ ((1 : Int32) = (0 : Int32)))).1) ?_
        refine XS.aload X82.here hx rfl (hb hby at_172) rfl rfl ?_
        refine XS.aload X82.here hx rfl (hb hby at_174) rfl rfl ?_
        refine XS.iload X82.here hx rfl (hb hby at_176) rfl ?_
        refine XS.iconst X82.here hx rfl (hb hby at_178) ?_
        exact Steps.refl _)
      obtain ⟨v84, T84, L84, X84, ⟨N84', rfl, e84⟩, c84'⟩ := own_stat X82 hx hml hZ51 hown51 (hw _ (List.mem_of_getElem? (i := 46) rfl)) (hw _ (List.mem_of_getElem? (i := 47) rfl)) (hw _ (List.mem_of_getElem? (i := 3) rfl)) (hw _ (List.mem_of_getElem? (i := 48) rfl)) (by decide) (kc := 0) (ks := 0) (h := T59.heap) (W := 0) (argsL := [(.ref r59), (.ref b52), (.int (Int32.ofNat ((own_esc [k43]) : List Int32).length)), (.int (1 : Int32))]) (rest := []) (own_pay (W := 0) (rmAt l Z a0 hw (own_esc [k43]) r59 t59 kb59 b52 k52 1 z fm T59.heap ((((O0.keep K51 all0).ext E52).keep K54 (allS ge52 all0)).keep K59 all0) E59 V59 Cd59 Kb59 (Vs56.keep K59 nin0) (own_escB hBs) (by decide) (Nat.le_trans hel (by decide)) SC hz SF hfm) hZ51 (hw _ (List.mem_of_getElem? (i := 48) rfl)) (hw _ (List.mem_of_getElem? (i := 3) rfl)) (by decide) (by decide)) c83 (lenOf pd_25 rfl) rfl (hb hby at_179) e82
      have N84 := Fr.app N82 N84'
      have c84 : Steps p.tables e below S0 (T84.setTop (mkF m 182 #[.val (.int i0), .val (.int i1), .val (.int i2), .val (.int i3), .val (.int i4), .val (.int (1 : Int32)), .val (.int k43), .val (.int k45), .val (.int k47), .val (.int k49), .val (.ref x51), .val (.ref b52), .val (.int (Int32.ofNat ((own_esc [k43]) : List Int32).length)), .val (.ref r59)] [(.int (1 : Int32))])) := c84'
      have c85 : Steps p.tables e below S0 (T84.setTop (mkF m 192 #[.val (.int i0), .val (.int i1), .val (.int i2), .val (.int i3), .val (.int i4), .val (.int (1 : Int32)), .val (.int k43), .val (.int k45), .val (.int k47), .val (.int k49), .val (.ref x51), .val (.ref b52), .val (.int (Int32.ofNat ((own_esc [k43]) : List Int32).length)), .val (.ref r59)] [(.int (2 : Int32)), (.int (Int32.ofNat ((own_esc [k43]) : List Int32).length)), (.ref b52), (.ref r59)])) := c84.trans (by
        refine XS.ifNo X84.here hx rfl (hb hby at_182) rfl ((if0 _ _).trans (feq (by decide : ¬ ((1 : Int32) = (0 : Int32)))).1) ?_
        refine XS.aload X84.here hx rfl (hb hby at_185) rfl rfl ?_
        refine XS.aload X84.here hx rfl (hb hby at_187) rfl rfl ?_
        refine XS.iload X84.here hx rfl (hb hby at_189) rfl ?_
        refine XS.iconst X84.here hx rfl (hb hby at_191) ?_
        exact Steps.refl _)
      obtain ⟨v86, T86, L86, X86, ⟨N86', rfl, e86⟩, c86'⟩ := own_stat X84 hx hml hZ51 hown51 (hw _ (List.mem_of_getElem? (i := 46) rfl)) (hw _ (List.mem_of_getElem? (i := 47) rfl)) (hw _ (List.mem_of_getElem? (i := 3) rfl)) (hw _ (List.mem_of_getElem? (i := 48) rfl)) (by decide) (kc := 0) (ks := 0) (h := T59.heap) (W := 0) (argsL := [(.ref r59), (.ref b52), (.int (Int32.ofNat ((own_esc [k43]) : List Int32).length)), (.int (2 : Int32))]) (rest := []) (own_pay (W := 0) (rmAt l Z a0 hw (own_esc [k43]) r59 t59 kb59 b52 k52 2 z fm T59.heap ((((O0.keep K51 all0).ext E52).keep K54 (allS ge52 all0)).keep K59 all0) E59 V59 Cd59 Kb59 (Vs56.keep K59 nin0) (own_escB hBs) (by decide) (Nat.le_trans hel (by decide)) SC hz SF hfm) hZ51 (hw _ (List.mem_of_getElem? (i := 48) rfl)) (hw _ (List.mem_of_getElem? (i := 3) rfl)) (by decide) (by decide)) c85 (lenOf pd_25 rfl) rfl (hb hby at_192) e84
      have N86 := Fr.app N84 N86'
      have c86 : Steps p.tables e below S0 (T86.setTop (mkF m 195 #[.val (.int i0), .val (.int i1), .val (.int i2), .val (.int i3), .val (.int i4), .val (.int (1 : Int32)), .val (.int k43), .val (.int k45), .val (.int k47), .val (.int k49), .val (.ref x51), .val (.ref b52), .val (.int (Int32.ofNat ((own_esc [k43]) : List Int32).length)), .val (.ref r59)] [(.int (1 : Int32))])) := c86'
      have c87 : Steps p.tables e below S0 (T86.setTop (mkF m 205 #[.val (.int i0), .val (.int i1), .val (.int i2), .val (.int i3), .val (.int i4), .val (.int (1 : Int32)), .val (.int k43), .val (.int k45), .val (.int k47), .val (.int k49), .val (.ref x51), .val (.ref b52), .val (.int (Int32.ofNat ((own_esc [k43]) : List Int32).length)), .val (.ref r59)] [(.int (3 : Int32)), (.int (Int32.ofNat ((own_esc [k43]) : List Int32).length)), (.ref b52), (.ref r59)])) := c86.trans (by
        refine XS.ifNo X86.here hx rfl (hb hby at_195) rfl ((if0 _ _).trans (feq (by decide : ¬ ((1 : Int32) = (0 : Int32)))).1) ?_
        refine XS.aload X86.here hx rfl (hb hby at_198) rfl rfl ?_
        refine XS.aload X86.here hx rfl (hb hby at_200) rfl rfl ?_
        refine XS.iload X86.here hx rfl (hb hby at_202) rfl ?_
        refine XS.iconst X86.here hx rfl (hb hby at_204) ?_
        exact Steps.refl _)
      obtain ⟨v88, T88, L88, X88, ⟨N88', rfl, e88⟩, c88'⟩ := own_stat X86 hx hml hZ51 hown51 (hw _ (List.mem_of_getElem? (i := 46) rfl)) (hw _ (List.mem_of_getElem? (i := 47) rfl)) (hw _ (List.mem_of_getElem? (i := 3) rfl)) (hw _ (List.mem_of_getElem? (i := 48) rfl)) (by decide) (kc := 0) (ks := 0) (h := T59.heap) (W := 0) (argsL := [(.ref r59), (.ref b52), (.int (Int32.ofNat ((own_esc [k43]) : List Int32).length)), (.int (3 : Int32))]) (rest := []) (own_pay (W := 0) (rmAt l Z a0 hw (own_esc [k43]) r59 t59 kb59 b52 k52 3 z fm T59.heap ((((O0.keep K51 all0).ext E52).keep K54 (allS ge52 all0)).keep K59 all0) E59 V59 Cd59 Kb59 (Vs56.keep K59 nin0) (own_escB hBs) (by decide) (Nat.le_trans hel (by decide)) SC hz SF hfm) hZ51 (hw _ (List.mem_of_getElem? (i := 48) rfl)) (hw _ (List.mem_of_getElem? (i := 3) rfl)) (by decide) (by decide)) c87 (lenOf pd_25 rfl) rfl (hb hby at_205) e86
      have N88 := Fr.app N86 N88'
      have c88 : Steps p.tables e below S0 (T88.setTop (mkF m 208 #[.val (.int i0), .val (.int i1), .val (.int i2), .val (.int i3), .val (.int i4), .val (.int (1 : Int32)), .val (.int k43), .val (.int k45), .val (.int k47), .val (.int k49), .val (.ref x51), .val (.ref b52), .val (.int (Int32.ofNat ((own_esc [k43]) : List Int32).length)), .val (.ref r59)] [(.int (1 : Int32))])) := c88'
      have c89 : Steps p.tables e below S0 (T88.setTop (mkF m 218 #[.val (.int i0), .val (.int i1), .val (.int i2), .val (.int i3), .val (.int i4), .val (.int (1 : Int32)), .val (.int k43), .val (.int k45), .val (.int k47), .val (.int k49), .val (.ref x51), .val (.ref b52), .val (.int (Int32.ofNat ((own_esc [k43]) : List Int32).length)), .val (.ref r59)] [(.int (4 : Int32)), (.int (Int32.ofNat ((own_esc [k43]) : List Int32).length)), (.ref b52), (.ref r59)])) := c88.trans (by
        refine XS.ifNo X88.here hx rfl (hb hby at_208) rfl ((if0 _ _).trans (feq (by decide : ¬ ((1 : Int32) = (0 : Int32)))).1) ?_
        refine XS.aload X88.here hx rfl (hb hby at_211) rfl rfl ?_
        refine XS.aload X88.here hx rfl (hb hby at_213) rfl rfl ?_
        refine XS.iload X88.here hx rfl (hb hby at_215) rfl ?_
        refine XS.iconst X88.here hx rfl (hb hby at_217) ?_
        exact Steps.refl _)
      obtain ⟨v90, T90, L90, X90, ⟨N90', rfl, e90⟩, c90'⟩ := own_stat X88 hx hml hZ51 hown51 (hw _ (List.mem_of_getElem? (i := 46) rfl)) (hw _ (List.mem_of_getElem? (i := 47) rfl)) (hw _ (List.mem_of_getElem? (i := 3) rfl)) (hw _ (List.mem_of_getElem? (i := 48) rfl)) (by decide) (kc := 0) (ks := 0) (h := T59.heap) (W := 0) (argsL := [(.ref r59), (.ref b52), (.int (Int32.ofNat ((own_esc [k43]) : List Int32).length)), (.int (4 : Int32))]) (rest := []) (own_pay (W := 0) (rmAt l Z a0 hw (own_esc [k43]) r59 t59 kb59 b52 k52 4 z fm T59.heap ((((O0.keep K51 all0).ext E52).keep K54 (allS ge52 all0)).keep K59 all0) E59 V59 Cd59 Kb59 (Vs56.keep K59 nin0) (own_escB hBs) (by decide) (Nat.le_trans hel (by decide)) SC hz SF hfm) hZ51 (hw _ (List.mem_of_getElem? (i := 48) rfl)) (hw _ (List.mem_of_getElem? (i := 3) rfl)) (by decide) (by decide)) c89 (lenOf pd_25 rfl) rfl (hb hby at_218) e88
      have N90 := Fr.app N88 N90'
      have c90 : Steps p.tables e below S0 (T90.setTop (mkF m 221 #[.val (.int i0), .val (.int i1), .val (.int i2), .val (.int i3), .val (.int i4), .val (.int (1 : Int32)), .val (.int k43), .val (.int k45), .val (.int k47), .val (.int k49), .val (.ref x51), .val (.ref b52), .val (.int (Int32.ofNat ((own_esc [k43]) : List Int32).length)), .val (.ref r59)] [(.int (1 : Int32))])) := c90'
      have c91 : Steps p.tables e below S0 (T90.setTop (mkF m 231 #[.val (.int i0), .val (.int i1), .val (.int i2), .val (.int i3), .val (.int i4), .val (.int (1 : Int32)), .val (.int k43), .val (.int k45), .val (.int k47), .val (.int k49), .val (.ref x51), .val (.ref b52), .val (.int (Int32.ofNat ((own_esc [k43]) : List Int32).length)), .val (.ref r59)] [(.int (5 : Int32)), (.int (Int32.ofNat ((own_esc [k43]) : List Int32).length)), (.ref b52), (.ref r59)])) := c90.trans (by
        refine XS.ifNo X90.here hx rfl (hb hby at_221) rfl ((if0 _ _).trans (feq (by decide : ¬ ((1 : Int32) = (0 : Int32)))).1) ?_
        refine XS.aload X90.here hx rfl (hb hby at_224) rfl rfl ?_
        refine XS.aload X90.here hx rfl (hb hby at_226) rfl rfl ?_
        refine XS.iload X90.here hx rfl (hb hby at_228) rfl ?_
        refine XS.iconst X90.here hx rfl (hb hby at_230) ?_
        exact Steps.refl _)
      obtain ⟨v92, T92, L92, X92, ⟨N92', rfl, e92⟩, c92'⟩ := own_stat X90 hx hml hZ51 hown51 (hw _ (List.mem_of_getElem? (i := 46) rfl)) (hw _ (List.mem_of_getElem? (i := 47) rfl)) (hw _ (List.mem_of_getElem? (i := 3) rfl)) (hw _ (List.mem_of_getElem? (i := 48) rfl)) (by decide) (kc := 0) (ks := 0) (h := T59.heap) (W := 0) (argsL := [(.ref r59), (.ref b52), (.int (Int32.ofNat ((own_esc [k43]) : List Int32).length)), (.int (5 : Int32))]) (rest := []) (own_pay (W := 0) (rmAt l Z a0 hw (own_esc [k43]) r59 t59 kb59 b52 k52 5 z fm T59.heap ((((O0.keep K51 all0).ext E52).keep K54 (allS ge52 all0)).keep K59 all0) E59 V59 Cd59 Kb59 (Vs56.keep K59 nin0) (own_escB hBs) (by decide) (Nat.le_trans hel (by decide)) SC hz SF hfm) hZ51 (hw _ (List.mem_of_getElem? (i := 48) rfl)) (hw _ (List.mem_of_getElem? (i := 3) rfl)) (by decide) (by decide)) c91 (lenOf pd_25 rfl) rfl (hb hby at_231) e90
      have N92 := Fr.app N90 N92'
      have c92 : Steps p.tables e below S0 (T92.setTop (mkF m 234 #[.val (.int i0), .val (.int i1), .val (.int i2), .val (.int i3), .val (.int i4), .val (.int (1 : Int32)), .val (.int k43), .val (.int k45), .val (.int k47), .val (.int k49), .val (.ref x51), .val (.ref b52), .val (.int (Int32.ofNat ((own_esc [k43]) : List Int32).length)), .val (.ref r59)] [(.int (1 : Int32))])) := c92'
      have c93 : Steps p.tables e below S0 (T92.setTop (mkF m 245 #[.val (.int i0), .val (.int i1), .val (.int i2), .val (.int i3), .val (.int i4), .val (.int (1 : Int32)), .val (.int k43), .val (.int k45), .val (.int k47), .val (.int k49), .val (.ref x51), .val (.ref b52), .val (.int (Int32.ofNat ((own_esc [k43]) : List Int32).length)), .val (.ref r59)] [(.int (6 : Int32)), (.int (Int32.ofNat ((own_esc [k43]) : List Int32).length)), (.ref b52), (.ref r59)])) := c92.trans (by
        refine XS.ifNo X92.here hx rfl (hb hby at_234) rfl ((if0 _ _).trans (feq (by decide : ¬ ((1 : Int32) = (0 : Int32)))).1) ?_
        refine XS.aload X92.here hx rfl (hb hby at_237) rfl rfl ?_
        refine XS.aload X92.here hx rfl (hb hby at_239) rfl rfl ?_
        refine XS.iload X92.here hx rfl (hb hby at_241) rfl ?_
        refine XS.bipush X92.here hx rfl (hb hby at_243) ?_
        exact Steps.refl _)
      obtain ⟨v94, T94, L94, X94, ⟨N94', rfl, e94⟩, c94'⟩ := own_stat X92 hx hml hZ51 hown51 (hw _ (List.mem_of_getElem? (i := 46) rfl)) (hw _ (List.mem_of_getElem? (i := 47) rfl)) (hw _ (List.mem_of_getElem? (i := 3) rfl)) (hw _ (List.mem_of_getElem? (i := 48) rfl)) (by decide) (kc := 0) (ks := 0) (h := T59.heap) (W := 0) (argsL := [(.ref r59), (.ref b52), (.int (Int32.ofNat ((own_esc [k43]) : List Int32).length)), (.int (6 : Int32))]) (rest := []) (own_pay (W := 0) (rmAt l Z a0 hw (own_esc [k43]) r59 t59 kb59 b52 k52 6 z fm T59.heap ((((O0.keep K51 all0).ext E52).keep K54 (allS ge52 all0)).keep K59 all0) E59 V59 Cd59 Kb59 (Vs56.keep K59 nin0) (own_escB hBs) (by decide) (Nat.le_trans hel (by decide)) SC hz SF hfm) hZ51 (hw _ (List.mem_of_getElem? (i := 48) rfl)) (hw _ (List.mem_of_getElem? (i := 3) rfl)) (by decide) (by decide)) c93 (lenOf pd_25 rfl) rfl (hb hby at_245) e92
      have N94 := Fr.app N92 N94'
      have c94 : Steps p.tables e below S0 (T94.setTop (mkF m 248 #[.val (.int i0), .val (.int i1), .val (.int i2), .val (.int i3), .val (.int i4), .val (.int (1 : Int32)), .val (.int k43), .val (.int k45), .val (.int k47), .val (.int k49), .val (.ref x51), .val (.ref b52), .val (.int (Int32.ofNat ((own_esc [k43]) : List Int32).length)), .val (.ref r59)] [(.int (1 : Int32))])) := c94'
      have c95 : Steps p.tables e below S0 (T94.setTop (mkF m 259 #[.val (.int i0), .val (.int i1), .val (.int i2), .val (.int i3), .val (.int i4), .val (.int (1 : Int32)), .val (.int k43), .val (.int k45), .val (.int k47), .val (.int k49), .val (.ref x51), .val (.ref b52), .val (.int (Int32.ofNat ((own_esc [k43]) : List Int32).length)), .val (.ref r59)] [(.int (7 : Int32)), (.int (Int32.ofNat ((own_esc [k43]) : List Int32).length)), (.ref b52), (.ref r59)])) := c94.trans (by
        refine XS.ifNo X94.here hx rfl (hb hby at_248) rfl ((if0 _ _).trans (feq (by decide : ¬ ((1 : Int32) = (0 : Int32)))).1) ?_
        refine XS.aload X94.here hx rfl (hb hby at_251) rfl rfl ?_
        refine XS.aload X94.here hx rfl (hb hby at_253) rfl rfl ?_
        refine XS.iload X94.here hx rfl (hb hby at_255) rfl ?_
        refine XS.bipush X94.here hx rfl (hb hby at_257) ?_
        exact Steps.refl _)
      obtain ⟨v96, T96, L96, X96, ⟨N96', rfl, e96⟩, c96'⟩ := own_stat X94 hx hml hZ51 hown51 (hw _ (List.mem_of_getElem? (i := 46) rfl)) (hw _ (List.mem_of_getElem? (i := 47) rfl)) (hw _ (List.mem_of_getElem? (i := 3) rfl)) (hw _ (List.mem_of_getElem? (i := 48) rfl)) (by decide) (kc := 0) (ks := 0) (h := T59.heap) (W := 0) (argsL := [(.ref r59), (.ref b52), (.int (Int32.ofNat ((own_esc [k43]) : List Int32).length)), (.int (7 : Int32))]) (rest := []) (own_pay (W := 0) (rmAt l Z a0 hw (own_esc [k43]) r59 t59 kb59 b52 k52 7 z fm T59.heap ((((O0.keep K51 all0).ext E52).keep K54 (allS ge52 all0)).keep K59 all0) E59 V59 Cd59 Kb59 (Vs56.keep K59 nin0) (own_escB hBs) (by decide) (Nat.le_trans hel (by decide)) SC hz SF hfm) hZ51 (hw _ (List.mem_of_getElem? (i := 48) rfl)) (hw _ (List.mem_of_getElem? (i := 3) rfl)) (by decide) (by decide)) c95 (lenOf pd_25 rfl) rfl (hb hby at_259) e94
      have N96 := Fr.app N94 N96'
      have c96 : Steps p.tables e below S0 (T96.setTop (mkF m 262 #[.val (.int i0), .val (.int i1), .val (.int i2), .val (.int i3), .val (.int i4), .val (.int (1 : Int32)), .val (.int k43), .val (.int k45), .val (.int k47), .val (.int k49), .val (.ref x51), .val (.ref b52), .val (.int (Int32.ofNat ((own_esc [k43]) : List Int32).length)), .val (.ref r59)] [(.int (1 : Int32))])) := c96'
      have c97 : Steps p.tables e below S0 (T96.setTop (mkF m 270 #[.val (.int i0), .val (.int i1), .val (.int i2), .val (.int i3), .val (.int i4), .val (.int (1 : Int32)), .val (.int k43), .val (.int k45), .val (.int k47), .val (.int k49), .val (.ref x51), .val (.ref b52), .val (.int (Int32.ofNat ((own_esc [k43]) : List Int32).length)), .val (.ref r59)] [(.int (1 : Int32))])) := c96.trans (by
        refine XS.ifNo X96.here hx rfl (hb hby at_262) rfl ((if0 _ _).trans (feq (by decide : ¬ ((1 : Int32) = (0 : Int32)))).1) ?_
        refine XS.iconst X96.here hx rfl (hb hby at_265) ?_
        refine XS.goto X96.here hx rfl (pc0 := 266) (pc' := 270) rfl (hb hby at_266) (by decide) (by decide) ?_
        exact Steps.refl _)
      refine ⟨T96, T51.vm, _, (some (.int (1 : Int32))), _, _, _, X96, by decide, by decide, (fun q => by cases q), N96, hS51, by rw [e96]; exact hk59, hZ51, by rw [e96]; exact CR59, ?_, fun fs hr => ?_⟩
      · skip
        exact rfl
      · exact c97.trans (retN X96 hx (t := .boolean) hret (by simp) (hb hby at_270) hr)
  · skip
    have eq99 : ((i0 &&& (2147483647 : Int32)) % (5 : Int32)) = (2 : Int32) := q3
    have c99 : Steps p.tables e below S0 (s₁.setTop (mkF m 6 #[.val (.int i0), .val (.int i1), .val (.int i2), .val (.int i3), .val (.int i4), .unset, .unset, .unset, .unset, .unset, .unset, .unset, .unset, .unset] [(.int (2 : Int32))])) := by have q := c2; rw [eq99] at q; exact q
    have c100 : Steps p.tables e below S0 (s₁.setTop (mkF m 9 #[.val (.int i0), .val (.int i1), .val (.int i2), .val (.int i3), .val (.int i4), .val (.int (2 : Int32)), .unset, .unset, .unset, .unset, .unset, .unset, .unset, .unset] [(.int i1)])) := c99.trans (by
      refine XS.istore X0.here hx rfl (hb hby at_6) rfl (l' := #[.val (.int i0), .val (.int i1), .val (.int i2), .val (.int i3), .val (.int i4), .val (.int (2 : Int32)), .unset, .unset, .unset, .unset, .unset, .unset, .unset, .unset]) rfl ?_
      refine XS.iloadN X0.here hx rfl (hb hby at_8) rfl ?_
      exact Steps.refl _)
    obtain ⟨v101, T101, L101, X101, ⟨N101', k101, hB101, rfl, e101⟩, c101'⟩ := own_stat X0 hx hml hZ hown (hw _ (List.mem_of_getElem? (i := 1) rfl)) (hw _ (List.mem_of_getElem? (i := 2) rfl)) (hw _ (List.mem_of_getElem? (i := 3) rfl)) (hw _ (List.mem_of_getElem? (i := 4) rfl)) (by decide) (kc := 0) (ks := 0) (h := h0) (W := 0) (argsL := [(.int i1)]) (rest := []) (own_pay (W := 0) (rmDraw l Z a0 hw i1 h0 O0) hZ (hw _ (List.mem_of_getElem? (i := 4) rfl)) (hw _ (List.mem_of_getElem? (i := 3) rfl)) (by decide) (by decide)) c100 (lenOf pd_17 rfl) rfl (hb hby at_9) e0
    have N101 := Fr.app N0 N101'
    have c101 : Steps p.tables e below S0 (T101.setTop (mkF m 12 #[.val (.int i0), .val (.int i1), .val (.int i2), .val (.int i3), .val (.int i4), .val (.int (2 : Int32)), .unset, .unset, .unset, .unset, .unset, .unset, .unset, .unset] [(.int k101)])) := c101'
    have c102 : Steps p.tables e below S0 (T101.setTop (mkF m 15 #[.val (.int i0), .val (.int i1), .val (.int i2), .val (.int i3), .val (.int i4), .val (.int (2 : Int32)), .val (.int k101), .unset, .unset, .unset, .unset, .unset, .unset, .unset] [(.int i2)])) := c101.trans (by
      refine XS.istore X101.here hx rfl (hb hby at_12) rfl (l' := #[.val (.int i0), .val (.int i1), .val (.int i2), .val (.int i3), .val (.int i4), .val (.int (2 : Int32)), .val (.int k101), .unset, .unset, .unset, .unset, .unset, .unset, .unset]) rfl ?_
      refine XS.iloadN X101.here hx rfl (hb hby at_14) rfl ?_
      exact Steps.refl _)
    obtain ⟨v103, T103, L103, X103, ⟨N103', k103, hB103, rfl, e103⟩, c103'⟩ := own_stat X101 hx hml hZ hown (hw _ (List.mem_of_getElem? (i := 1) rfl)) (hw _ (List.mem_of_getElem? (i := 2) rfl)) (hw _ (List.mem_of_getElem? (i := 3) rfl)) (hw _ (List.mem_of_getElem? (i := 4) rfl)) (by decide) (kc := 0) (ks := 0) (h := h0) (W := 0) (argsL := [(.int i2)]) (rest := []) (own_pay (W := 0) (rmDraw l Z a0 hw i2 h0 O0) hZ (hw _ (List.mem_of_getElem? (i := 4) rfl)) (hw _ (List.mem_of_getElem? (i := 3) rfl)) (by decide) (by decide)) c102 (lenOf pd_17 rfl) rfl (hb hby at_15) e101
    have N103 := Fr.app N101 N103'
    have c103 : Steps p.tables e below S0 (T103.setTop (mkF m 18 #[.val (.int i0), .val (.int i1), .val (.int i2), .val (.int i3), .val (.int i4), .val (.int (2 : Int32)), .val (.int k101), .unset, .unset, .unset, .unset, .unset, .unset, .unset] [(.int k103)])) := c103'
    have c104 : Steps p.tables e below S0 (T103.setTop (mkF m 21 #[.val (.int i0), .val (.int i1), .val (.int i2), .val (.int i3), .val (.int i4), .val (.int (2 : Int32)), .val (.int k101), .val (.int k103), .unset, .unset, .unset, .unset, .unset, .unset] [(.int i3)])) := c103.trans (by
      refine XS.istore X103.here hx rfl (hb hby at_18) rfl (l' := #[.val (.int i0), .val (.int i1), .val (.int i2), .val (.int i3), .val (.int i4), .val (.int (2 : Int32)), .val (.int k101), .val (.int k103), .unset, .unset, .unset, .unset, .unset, .unset]) rfl ?_
      refine XS.iloadN X103.here hx rfl (hb hby at_20) rfl ?_
      exact Steps.refl _)
    obtain ⟨v105, T105, L105, X105, ⟨N105', k105, hB105, rfl, e105⟩, c105'⟩ := own_stat X103 hx hml hZ hown (hw _ (List.mem_of_getElem? (i := 1) rfl)) (hw _ (List.mem_of_getElem? (i := 2) rfl)) (hw _ (List.mem_of_getElem? (i := 3) rfl)) (hw _ (List.mem_of_getElem? (i := 4) rfl)) (by decide) (kc := 0) (ks := 0) (h := h0) (W := 0) (argsL := [(.int i3)]) (rest := []) (own_pay (W := 0) (rmDraw l Z a0 hw i3 h0 O0) hZ (hw _ (List.mem_of_getElem? (i := 4) rfl)) (hw _ (List.mem_of_getElem? (i := 3) rfl)) (by decide) (by decide)) c104 (lenOf pd_17 rfl) rfl (hb hby at_21) e103
    have N105 := Fr.app N103 N105'
    have c105 : Steps p.tables e below S0 (T105.setTop (mkF m 24 #[.val (.int i0), .val (.int i1), .val (.int i2), .val (.int i3), .val (.int i4), .val (.int (2 : Int32)), .val (.int k101), .val (.int k103), .unset, .unset, .unset, .unset, .unset, .unset] [(.int k105)])) := c105'
    have c106 : Steps p.tables e below S0 (T105.setTop (mkF m 28 #[.val (.int i0), .val (.int i1), .val (.int i2), .val (.int i3), .val (.int i4), .val (.int (2 : Int32)), .val (.int k101), .val (.int k103), .val (.int k105), .unset, .unset, .unset, .unset, .unset] [(.int i4)])) := c105.trans (by
      refine XS.istore X105.here hx rfl (hb hby at_24) rfl (l' := #[.val (.int i0), .val (.int i1), .val (.int i2), .val (.int i3), .val (.int i4), .val (.int (2 : Int32)), .val (.int k101), .val (.int k103), .val (.int k105), .unset, .unset, .unset, .unset, .unset]) rfl ?_
      refine XS.iload X105.here hx rfl (hb hby at_26) rfl ?_
      exact Steps.refl _)
    obtain ⟨v107, T107, L107, X107, ⟨N107', k107, hB107, rfl, e107⟩, c107'⟩ := own_stat X105 hx hml hZ hown (hw _ (List.mem_of_getElem? (i := 1) rfl)) (hw _ (List.mem_of_getElem? (i := 2) rfl)) (hw _ (List.mem_of_getElem? (i := 3) rfl)) (hw _ (List.mem_of_getElem? (i := 4) rfl)) (by decide) (kc := 0) (ks := 0) (h := h0) (W := 0) (argsL := [(.int i4)]) (rest := []) (own_pay (W := 0) (rmDraw l Z a0 hw i4 h0 O0) hZ (hw _ (List.mem_of_getElem? (i := 4) rfl)) (hw _ (List.mem_of_getElem? (i := 3) rfl)) (by decide) (by decide)) c106 (lenOf pd_17 rfl) rfl (hb hby at_28) e105
    have N107 := Fr.app N105 N107'
    have c107 : Steps p.tables e below S0 (T107.setTop (mkF m 31 #[.val (.int i0), .val (.int i1), .val (.int i2), .val (.int i3), .val (.int i4), .val (.int (2 : Int32)), .val (.int k101), .val (.int k103), .val (.int k105), .unset, .unset, .unset, .unset, .unset] [(.int k107)])) := c107'
    have c108 : Steps p.tables e below S0 (T107.setTop (mkF m 43 #[.val (.int i0), .val (.int i1), .val (.int i2), .val (.int i3), .val (.int i4), .val (.int (2 : Int32)), .val (.int k101), .val (.int k103), .val (.int k105), .val (.int k107), .unset, .unset, .unset, .unset] [(.int k107), (.int k105), (.int k103), (.int k101), (.int (2 : Int32))])) := c107.trans (by
      refine XS.istore X107.here hx rfl (hb hby at_31) rfl (l' := #[.val (.int i0), .val (.int i1), .val (.int i2), .val (.int i3), .val (.int i4), .val (.int (2 : Int32)), .val (.int k101), .val (.int k103), .val (.int k105), .val (.int k107), .unset, .unset, .unset, .unset]) rfl ?_
      refine XS.iload X107.here hx rfl (hb hby at_33) rfl ?_
      refine XS.iload X107.here hx rfl (hb hby at_35) rfl ?_
      refine XS.iload X107.here hx rfl (hb hby at_37) rfl ?_
      refine XS.iload X107.here hx rfl (hb hby at_39) rfl ?_
      refine XS.iload X107.here hx rfl (hb hby at_41) rfl ?_
      exact Steps.refl _)
    obtain ⟨v109, T109, L109, X109, hS109, hZ109, hown109, R109, ⟨N109', x109, t109, kb109, rfl, K109, lo109, E109, V109, Cd109, Kb109⟩, c109'⟩ := own_wstat X107 hx hml hZ hown hS0 hk0 (hw _ (List.mem_of_getElem? (i := 5) rfl)) (hw _ (List.mem_of_getElem? (i := 6) rfl)) (hw _ (List.mem_of_getElem? (i := 3) rfl)) (hw _ (List.mem_of_getElem? (i := 7) rfl)) (by decide) (kc := 6) (ks := 40) (h := h0) (W := 0) (argsL := [(.int (2 : Int32)), (.int k101), (.int k103), (.int k105), (.int k107)]) (rest := []) (own_wpay (W := 0) (rmMk2 l Z a0 hw hEL k101 k103 k105 k107 z fm h0 O0 hB101 hB103 hB105 hB107 SC hz SF hfm) hZ (hw _ (List.mem_of_getElem? (i := 7) rfl)) (hw _ (List.mem_of_getElem? (i := 3) rfl)) (by decide) (by decide) hEL CR0.1 all0) c108 (lenOf pd_23 rfl) rfl (hb hby at_43) e107
    have N109 := Fr.app N107 N109'
    have CR109 := CR0.trans R109
    have c109 : Steps p.tables e below S0 (T109.setTop (mkF m 46 #[.val (.int i0), .val (.int i1), .val (.int i2), .val (.int i3), .val (.int i4), .val (.int (2 : Int32)), .val (.int k101), .val (.int k103), .val (.int k105), .val (.int k107), .unset, .unset, .unset, .unset] [(.ref x109)])) := c109'
    obtain ⟨T110, h110, k110, X110, e110, E110, A110, st110⟩ := newP X109 hx hZ109 (hw _ (List.mem_of_getElem? (i := 11) rfl)) rfl (g := (mkF m 50 #[.val (.int i0), .val (.int i1), .val (.int i2), .val (.int i3), .val (.int i4), .val (.int (2 : Int32)), .val (.int k101), .val (.int k103), .val (.int k105), .val (.int k107), .val (.ref x109), .unset, .unset, .unset] [(.int (8 : Int32))])) rfl (hb hby at_50) rfl (by decide) (cap := 8) (by decide) (by decide) (by decide) (by decide)
    obtain ⟨b110, g110⟩ : ∃ z, z = T109.heap.size := ⟨_, rfl⟩
    rw [← g110] at A110 st110
    have lo110 : T109.heap.size ≤ b110 := Nat.le_of_eq g110.symm
    have ge110 : Z.heap.size ≤ b110 := Nat.le_trans (O0.keep K109 all0).2.1 lo110
    have R110 := CHr.ext (EL := EL) E110 CR109.1
    have sf110 := Safe.ext E110 CR109.1 (Safe.new lo110)
    have CR110 := CR109.trans R110
    have hk110 := Nat.le_trans (Nat.le_refl _) R110.2.1
    have V110 := Arv.new A110 (by decide)
    have V110a : Arv Z h110 b110 k110 .char (8 : Int32) [(.int (0 : Int32)), (.int (0 : Int32)), (.int (0 : Int32)), (.int (0 : Int32)), (.int (0 : Int32)), (.int (0 : Int32)), (.int (0 : Int32)), (.int (0 : Int32))] (.int (0 : Int32)) := V110.pad (pad_rep [] (.int (0 : Int32)) 8)
    have c111 : Steps p.tables e below S0 (T110.setTop (mkF m 68 #[.val (.int i0), .val (.int i1), .val (.int i2), .val (.int i3), .val (.int i4), .val (.int (2 : Int32)), .val (.int k101), .val (.int k103), .val (.int k105), .val (.int k107), .val (.ref x109), .val (.ref b110), .val (.int (0 : Int32)), .unset] [(.int k101), (.int (0 : Int32)), (.ref b110)])) := c109.trans (by
      refine XS.astore X109.here hx rfl (hb hby at_46) rfl rfl (l' := #[.val (.int i0), .val (.int i1), .val (.int i2), .val (.int i3), .val (.int i4), .val (.int (2 : Int32)), .val (.int k101), .val (.int k103), .val (.int k105), .val (.int k107), .val (.ref x109), .unset, .unset, .unset]) rfl ?_
      refine XS.bipush X109.here hx rfl (hb hby at_48) ?_
      refine st110 _ ?_
      refine XS.astore X110.here hx rfl (hb hby at_52) rfl rfl (l' := #[.val (.int i0), .val (.int i1), .val (.int i2), .val (.int i3), .val (.int i4), .val (.int (2 : Int32)), .val (.int k101), .val (.int k103), .val (.int k105), .val (.int k107), .val (.ref x109), .val (.ref b110), .unset, .unset]) rfl ?_
      refine XS.iconst X110.here hx rfl (hb hby at_54) ?_
      refine XS.istore X110.here hx rfl (hb hby at_55) rfl (l' := #[.val (.int i0), .val (.int i1), .val (.int i2), .val (.int i3), .val (.int i4), .val (.int (2 : Int32)), .val (.int k101), .val (.int k103), .val (.int k105), .val (.int k107), .val (.ref x109), .val (.ref b110), .val (.int (0 : Int32)), .unset]) rfl ?_
      refine XS.iload X110.here hx rfl (hb hby at_57) rfl ?_
      refine XS.ifNo X110.here hx rfl (hb hby at_59) rfl ((if0 _ _).trans (tlt (by decide : (0 : Int32) < (2 : Int32))).2.2.2) ?_
      refine XS.aload X110.here hx rfl (hb hby at_62) rfl rfl ?_
      show Steps p.tables e below (T110.setTop (mkF m 64 #[.val (.int i0), .val (.int i1), .val (.int i2), .val (.int i3), .val (.int i4), .val (.int (2 : Int32)), .val (.int k101), .val (.int k103), .val (.int k105), .val (.int k107), .val (.ref x109), .val (.ref b110), .val (.int (0 : Int32)), .unset] [(.ref b110)])) _
      refine XS.iload X110.here hx rfl (hb hby at_64) rfl ?_
      refine XS.iload X110.here hx rfl (hb hby at_66) rfl ?_
      exact Steps.refl _)
    obtain ⟨v112, T112, L112, X112, ⟨N112', rfl, K112, Vo112⟩, c112'⟩ := own_stat X110 hx hml hZ109 hown109 (hw _ (List.mem_of_getElem? (i := 59) rfl)) (hw _ (List.mem_of_getElem? (i := 60) rfl)) (hw _ (List.mem_of_getElem? (i := 3) rfl)) (hw _ (List.mem_of_getElem? (i := 61) rfl)) (by decide) (kc := 0) (ks := 0) (h := h110) (W := 0) (argsL := [(.ref b110), (.int (0 : Int32)), (.int k101)]) (rest := []) (own_pay (R := room_1) (s := (s.setVm T109.vm)) (W := 0) (rmPut l Z a0 hw [] b110 k110 k101 h110 ((O0.keep K109 all0).ext E110) V110 hB101 (Nat.le_trans (Nat.add_le_add_right (Nat.le_refl 0) 2) (by decide)) ge110) hZ109 (hw _ (List.mem_of_getElem? (i := 61) rfl)) (hw _ (List.mem_of_getElem? (i := 3) rfl)) (by decide) (by decide)) c111 (lenOf pd_26 rfl) rfl (hb hby at_68) e110
    have N112 := Fr.app N109 N112'
    have R112 := CHr.keep K112 (sfS sf110 sf0) CR110.1
    have CR112 := CR110.trans R112
    have hk112 := Nat.le_trans hk110 R112.2.1
    have c112 : Steps p.tables e below S0 (T112.setTop (mkF m 71 #[.val (.int i0), .val (.int i1), .val (.int i2), .val (.int i3), .val (.int i4), .val (.int (2 : Int32)), .val (.int k101), .val (.int k103), .val (.int k105), .val (.int k107), .val (.ref x109), .val (.ref b110), .val (.int (0 : Int32)), .unset] [(.int (Int32.ofNat ([] ++ own_e1 k101).length))])) := c112'
    have c113 : Steps p.tables e below S0 (T112.setTop (mkF m 85 #[.val (.int i0), .val (.int i1), .val (.int i2), .val (.int i3), .val (.int i4), .val (.int (2 : Int32)), .val (.int k101), .val (.int k103), .val (.int k105), .val (.int k107), .val (.ref x109), .val (.ref b110), .val (.int (Int32.ofNat ([] ++ own_e1 k101).length)), .unset] [(.int k103), (.int (Int32.ofNat ([] ++ own_e1 k101).length)), (.ref b110)])) := c112.trans (by
      refine XS.istore X112.here hx rfl (hb hby at_71) rfl (l' := #[.val (.int i0), .val (.int i1), .val (.int i2), .val (.int i3), .val (.int i4), .val (.int (2 : Int32)), .val (.int k101), .val (.int k103), .val (.int k105), .val (.int k107), .val (.ref x109), .val (.ref b110), .val (.int (Int32.ofNat ([] ++ own_e1 k101).length)), .unset]) rfl ?_
      refine XS.iload X112.here hx rfl (hb hby at_73) rfl ?_
      refine XS.iconst X112.here hx rfl (hb hby at_75) ?_
      refine XS.icmpNo X112.here hx rfl (hb hby at_76) rfl (tlt (by decide : (1 : Int32) < (2 : Int32))).2.2.2 ?_
      refine XS.aload X112.here hx rfl (hb hby at_79) rfl rfl ?_
      refine XS.iload X112.here hx rfl (hb hby at_81) rfl ?_
      refine XS.iload X112.here hx rfl (hb hby at_83) rfl ?_
      exact Steps.refl _)
    obtain ⟨v114, T114, L114, X114, ⟨N114', rfl, K114, Vo114⟩, c114'⟩ := own_stat X112 hx hml hZ109 hown109 (hw _ (List.mem_of_getElem? (i := 59) rfl)) (hw _ (List.mem_of_getElem? (i := 60) rfl)) (hw _ (List.mem_of_getElem? (i := 3) rfl)) (hw _ (List.mem_of_getElem? (i := 61) rfl)) (by decide) (kc := 0) (ks := 0) (h := T112.heap) (W := 0) (argsL := [(.ref b110), (.int (Int32.ofNat ([] ++ own_e1 k101).length)), (.int k103)]) (rest := []) (own_pay (R := room_1) (s := (s.setVm T109.vm)) (W := 0) (rmPut l Z a0 hw ([] ++ own_e1 k101) b110 k110 k103 T112.heap (((O0.keep K109 all0).ext E110).keep K112 (allS ge110 all0)) Vo112 hB103 (Nat.le_trans (Nat.add_le_add_right (own_putL (os := []) (k := k101) (j := 0) (Nat.le_refl 0)) 2) (by decide)) ge110) hZ109 (hw _ (List.mem_of_getElem? (i := 61) rfl)) (hw _ (List.mem_of_getElem? (i := 3) rfl)) (by decide) (by decide)) c113 (lenOf pd_26 rfl) rfl (hb hby at_85) rfl
    have N114 := Fr.app N112 N114'
    have R114 := CHr.keep K114 (sfS (R112.safe V110.lt sf110) sf0) CR112.1
    have CR114 := CR112.trans R114
    have hk114 := Nat.le_trans hk112 R114.2.1
    have c114 : Steps p.tables e below S0 (T114.setTop (mkF m 88 #[.val (.int i0), .val (.int i1), .val (.int i2), .val (.int i3), .val (.int i4), .val (.int (2 : Int32)), .val (.int k101), .val (.int k103), .val (.int k105), .val (.int k107), .val (.ref x109), .val (.ref b110), .val (.int (Int32.ofNat ([] ++ own_e1 k101).length)), .unset] [(.int (Int32.ofNat (([] ++ own_e1 k101) ++ own_e1 k103).length))])) := c114'
    have c115 : Steps p.tables e below S0 (T114.setTop (mkF m 124 #[.val (.int i0), .val (.int i1), .val (.int i2), .val (.int i3), .val (.int i4), .val (.int (2 : Int32)), .val (.int k101), .val (.int k103), .val (.int k105), .val (.int k107), .val (.ref x109), .val (.ref b110), .val (.int (Int32.ofNat (([] ++ own_e1 k101) ++ own_e1 k103).length)), .unset] [])) := c114.trans (by
      refine XS.istore X114.here hx rfl (hb hby at_88) rfl (l' := #[.val (.int i0), .val (.int i1), .val (.int i2), .val (.int i3), .val (.int i4), .val (.int (2 : Int32)), .val (.int k101), .val (.int k103), .val (.int k105), .val (.int k107), .val (.ref x109), .val (.ref b110), .val (.int (Int32.ofNat (([] ++ own_e1 k101) ++ own_e1 k103).length)), .unset]) rfl ?_
      refine XS.iload X114.here hx rfl (hb hby at_90) rfl ?_
      refine XS.iconst X114.here hx rfl (hb hby at_92) ?_
      refine XS.icmpYes X114.here hx rfl (pc0 := 93) (pc' := 107) rfl (hb hby at_93) rfl (flt (by decide : ¬ ((2 : Int32) < (2 : Int32)))).2.2.2 (by decide) (by decide) ?_
      refine XS.iload X114.here hx rfl (hb hby at_107) rfl ?_
      refine XS.iconst X114.here hx rfl (hb hby at_109) ?_
      refine XS.icmpYes X114.here hx rfl (pc0 := 110) (pc' := 124) rfl (hb hby at_110) rfl (flt (by decide : ¬ ((3 : Int32) < (2 : Int32)))).2.2.2 (by decide) (by decide) ?_
      exact Steps.refl _)
    have hes : (([] ++ own_e1 k101) ++ own_e1 k103) = (own_esc [k101, k103]) := by simp [own_esc]
    have Vs116 : Arv Z T114.heap b110 k110 .char (8 : Int32) ((own_esc [k101, k103]).map Value.int) (.int (0 : Int32)) := by rw [← hes]; exact Vo114
    have hel : (own_esc [k101, k103]).length ≤ 4 := own_escL [k101, k103]
    have hBs : ∀ c ∈ [k101, k103], own_B c := (own_cons hB101 (own_cons hB103 own_nil))
    have eq117 : (Int32.ofNat (([] ++ own_e1 k101) ++ own_e1 k103).length) = (Int32.ofNat ((own_esc [k101, k103]) : List Int32).length) := by rw [hes]
    have c117 : Steps p.tables e below S0 (T114.setTop (mkF m 124 #[.val (.int i0), .val (.int i1), .val (.int i2), .val (.int i3), .val (.int i4), .val (.int (2 : Int32)), .val (.int k101), .val (.int k103), .val (.int k105), .val (.int k107), .val (.ref x109), .val (.ref b110), .val (.int (Int32.ofNat ((own_esc [k101, k103]) : List Int32).length)), .unset] [])) := by have q := c115; rw [eq117] at q; exact q
    have c118 : Steps p.tables e below S0 (T114.setTop (mkF m 126 #[.val (.int i0), .val (.int i1), .val (.int i2), .val (.int i3), .val (.int i4), .val (.int (2 : Int32)), .val (.int k101), .val (.int k103), .val (.int k105), .val (.int k107), .val (.ref x109), .val (.ref b110), .val (.int (Int32.ofNat ((own_esc [k101, k103]) : List Int32).length)), .unset] [(.ref x109)])) := c117.trans (by
      refine XS.aload X114.here hx rfl (hb hby at_124) rfl rfl ?_
      exact Steps.refl _)
    obtain ⟨v119, T119, L119, X119, ⟨N119', r119, t119, kb119, rfl, K119, E119, V119, Cd119, Kb119, hd119⟩, c119'⟩ := own_stat X114 hx hml hZ109 hown109 (hw _ (List.mem_of_getElem? (i := 30) rfl)) (hw _ (List.mem_of_getElem? (i := 31) rfl)) (hw _ (List.mem_of_getElem? (i := 32) rfl)) (hw _ (List.mem_of_getElem? (i := 33) rfl)) (by decide) (kc := 12) (ks := 120) (h := T114.heap) (W := 0) (argsL := [(.ref x109)]) (rest := []) (own_pay (W := 0) (rmEsc l Z a0 hw [k101, k103] x109 t109 kb109 z fm fo T114.heap ((((O0.keep K109 all0).ext E110).keep K112 (allS ge110 all0)).keep K114 (allS ge110 all0)) (((E109.ext E110).keep K112).keep K114) (((V109.ext E110).keep K112 (ninS (Nat.ne_of_lt (Nat.lt_of_lt_of_le E109.lt lo110)) nin0)).keep K114 (ninS (Nat.ne_of_lt (Nat.lt_of_lt_of_le E109.lt lo110)) nin0)) (((Cd109.ext E110).keep K112 (ninS (Nat.ne_of_lt (Nat.lt_of_lt_of_le E109.lt lo110)) nin0)).keep K114 (ninS (Nat.ne_of_lt (Nat.lt_of_lt_of_le E109.lt lo110)) nin0)) (((Kb109.ext E110).keep K112 (ninS (Nat.ne_of_lt (Nat.lt_of_lt_of_le Kb109.lt lo110)) nin0)).keep K114 (ninS (Nat.ne_of_lt (Nat.lt_of_lt_of_le Kb109.lt lo110)) nin0)) (by show 2 ≤ 4; decide) hBs SC hz SF hfm SI hfo) hZ109 (hw _ (List.mem_of_getElem? (i := 33) rfl)) (hw _ (List.mem_of_getElem? (i := 32) rfl)) (by decide) (by decide)) c118 (lenOf pd_24 rfl) rfl (hb hby at_126) rfl
    have N119 := Fr.app N114 N119'
    have R119 := CHr.keep K119 sf0 CR114.1
    have CR119 := CR114.trans R119
    have hk119 := Nat.le_trans hk114 R119.2.1
    have c119 : Steps p.tables e below S0 (T119.setTop (mkF m 129 #[.val (.int i0), .val (.int i1), .val (.int i2), .val (.int i3), .val (.int i4), .val (.int (2 : Int32)), .val (.int k101), .val (.int k103), .val (.int k105), .val (.int k107), .val (.ref x109), .val (.ref b110), .val (.int (Int32.ofNat ((own_esc [k101, k103]) : List Int32).length)), .unset] [(.ref r119)])) := c119'
    have c120 : Steps p.tables e below S0 (T119.setTop (mkF m 133 #[.val (.int i0), .val (.int i1), .val (.int i2), .val (.int i3), .val (.int i4), .val (.int (2 : Int32)), .val (.int k101), .val (.int k103), .val (.int k105), .val (.int k107), .val (.ref x109), .val (.ref b110), .val (.int (Int32.ofNat ((own_esc [k101, k103]) : List Int32).length)), .val (.ref r119)] [(.ref r119)])) := c119.trans (by
      refine XS.astore X119.here hx rfl (hb hby at_129) rfl rfl (l' := #[.val (.int i0), .val (.int i1), .val (.int i2), .val (.int i3), .val (.int i4), .val (.int (2 : Int32)), .val (.int k101), .val (.int k103), .val (.int k105), .val (.int k107), .val (.ref x109), .val (.ref b110), .val (.int (Int32.ofNat ((own_esc [k101, k103]) : List Int32).length)), .val (.ref r119)]) rfl ?_
      refine XS.aload X119.here hx rfl (hb hby at_131) rfl rfl ?_
      exact Steps.refl _)
    obtain ⟨v121, T121, L121, X121, ⟨rfl, rfl, e121⟩, c121'⟩ := own_virt X119 hx hml hZ109 hown109 (hw _ (List.mem_of_getElem? (i := 45) rfl)) (hw _ (List.mem_of_getElem? (i := 35) rfl)) (hw _ (List.mem_of_getElem? (i := 37) rfl)) (hw _ (List.mem_of_getElem? (i := 36) rfl)) (hw _ (List.mem_of_getElem? (i := 37) rfl)) (by decide) (Q := fun v h' L => v = some (.int (Int32.ofNat ((own_esc [k101, k103]) : List Int32).length)) ∧ L = [] ∧ h' = T119.heap) (kc := 0) (ks := 0) (h := T119.heap) (W := 0) (b := r119) (argsL := []) (rest := []) (StrChars.Road.lenW (s := (s.setVm T109.vm)) (R := room_1) (W := 0) hZ109 (own_wl hw) (kI := 4) (hw _ (List.mem_of_getElem? (i := 9) rfl)) (cs := (own_esc [k101, k103])) E119 V119 Cd119 Kb119 (StrChars.Road.codOf (n := ((own_esc [k101, k103]) : List Int32).length) rfl (fun c hc => ((own_escB hBs) c hc).rng.2)) (fun c hc => ((own_escB hBs) c hc).rng2) (SC.ext (((((O0.keep K109 all0).ext E110).keep K112 (allS ge110 all0)).keep K114 (allS ge110 all0)).keep K119 all0).2) hz (Nat.le_trans hel (by decide)) (by decide) (by decide)) E119 c120 (lenOf pd_9 rfl) rfl (hb hby at_133) rfl
    have N121 := Fr.app N119 (Fr.nil _)
    have c121 : Steps p.tables e below S0 (T121.setTop (mkF m 136 #[.val (.int i0), .val (.int i1), .val (.int i2), .val (.int i3), .val (.int i4), .val (.int (2 : Int32)), .val (.int k101), .val (.int k103), .val (.int k105), .val (.int k107), .val (.ref x109), .val (.ref b110), .val (.int (Int32.ofNat ((own_esc [k101, k103]) : List Int32).length)), .val (.ref r119)] [(.int (Int32.ofNat ((own_esc [k101, k103]) : List Int32).length))])) := c121'
    have c122 : Steps p.tables e below S0 (T121.setTop (mkF m 147 #[.val (.int i0), .val (.int i1), .val (.int i2), .val (.int i3), .val (.int i4), .val (.int (2 : Int32)), .val (.int k101), .val (.int k103), .val (.int k105), .val (.int k107), .val (.ref x109), .val (.ref b110), .val (.int (Int32.ofNat ((own_esc [k101, k103]) : List Int32).length)), .val (.ref r119)] [(.int (2 : Int32)), (.int (Int32.ofNat ((own_esc [k101, k103]) : List Int32).length))])) := c121.trans (by
      refine XS.iload X121.here hx rfl (hb hby at_136) rfl ?_
      refine XS.icmpYes X121.here hx rfl (pc0 := 138) (pc' := 143) rfl (hb hby at_138) rfl (teq (rfl : (Int32.ofNat ((own_esc [k101, k103]) : List Int32).length) = (Int32.ofNat ((own_esc [k101, k103]) : List Int32).length))).1 (by decide) (by decide) ?_
      refine XS.iload X121.here hx rfl (hb hby at_143) rfl ?_
      refine XS.iload X121.here hx rfl (hb hby at_145) rfl ?_
      exact Steps.refl _)
    rcases hd119 with ⟨hr119, he119⟩ | hg119
    · skip
      have c123 : Steps p.tables e below S0 (T121.setTop (mkF m 166 #[.val (.int i0), .val (.int i1), .val (.int i2), .val (.int i3), .val (.int i4), .val (.int (2 : Int32)), .val (.int k101), .val (.int k103), .val (.int k105), .val (.int k107), .val (.ref x109), .val (.ref b110), .val (.int (Int32.ofNat ((own_esc [k101, k103]) : List Int32).length)), .val (.ref r119)] [(.int (0 : Int32)), (.int (Int32.ofNat ((own_esc [k101, k103]) : List Int32).length)), (.ref b110), (.ref r119)])) := c122.trans (by
        refine XS.icmpNo X121.here hx rfl (hb hby at_147) rfl (teq (by rw [he119]; rfl)).2 ?_
        refine XS.aload X121.here hx rfl (hb hby at_150) rfl rfl ?_
        refine XS.aload X121.here hx rfl (hb hby at_152) rfl rfl ?_
        refine Jvm.RoadKit.acmp (g := (mkF m 154 #[.val (.int i0), .val (.int i1), .val (.int i2), .val (.int i3), .val (.int i4), .val (.int (2 : Int32)), .val (.int k101), .val (.int k103), .val (.int k105), .val (.int k107), .val (.ref x109), .val (.ref b110), .val (.int (Int32.ofNat ((own_esc [k101, k103]) : List Int32).length)), .val (.ref r119)] [(.ref x109), (.ref r119)])) X121 hx rfl rfl rfl (pc0 := 154) (pc' := 159) (same := true) rfl (hb hby at_154) rfl (decide_eq_true (congrArg Value.ref hr119)) (by decide) (by decide) ?_
        refine XS.aload X121.here hx rfl (hb hby at_159) rfl rfl ?_
        refine XS.aload X121.here hx rfl (hb hby at_161) rfl rfl ?_
        refine XS.iload X121.here hx rfl (hb hby at_163) rfl ?_
        refine XS.iconst X121.here hx rfl (hb hby at_165) ?_
        exact Steps.refl _)
      obtain ⟨v124, T124, L124, X124, ⟨N124', rfl, e124⟩, c124'⟩ := own_stat X121 hx hml hZ109 hown109 (hw _ (List.mem_of_getElem? (i := 46) rfl)) (hw _ (List.mem_of_getElem? (i := 47) rfl)) (hw _ (List.mem_of_getElem? (i := 3) rfl)) (hw _ (List.mem_of_getElem? (i := 48) rfl)) (by decide) (kc := 0) (ks := 0) (h := T119.heap) (W := 0) (argsL := [(.ref r119), (.ref b110), (.int (Int32.ofNat ((own_esc [k101, k103]) : List Int32).length)), (.int (0 : Int32))]) (rest := []) (own_pay (W := 0) (rmAt l Z a0 hw (own_esc [k101, k103]) r119 t119 kb119 b110 k110 0 z fm T119.heap (((((O0.keep K109 all0).ext E110).keep K112 (allS ge110 all0)).keep K114 (allS ge110 all0)).keep K119 all0) E119 V119 Cd119 Kb119 (Vs116.keep K119 nin0) (own_escB hBs) (by decide) (Nat.le_trans hel (by decide)) SC hz SF hfm) hZ109 (hw _ (List.mem_of_getElem? (i := 48) rfl)) (hw _ (List.mem_of_getElem? (i := 3) rfl)) (by decide) (by decide)) c123 (lenOf pd_25 rfl) rfl (hb hby at_166) e121
      have N124 := Fr.app N121 N124'
      have c124 : Steps p.tables e below S0 (T124.setTop (mkF m 169 #[.val (.int i0), .val (.int i1), .val (.int i2), .val (.int i3), .val (.int i4), .val (.int (2 : Int32)), .val (.int k101), .val (.int k103), .val (.int k105), .val (.int k107), .val (.ref x109), .val (.ref b110), .val (.int (Int32.ofNat ((own_esc [k101, k103]) : List Int32).length)), .val (.ref r119)] [(.int (1 : Int32))])) := c124'
      have c125 : Steps p.tables e below S0 (T124.setTop (mkF m 179 #[.val (.int i0), .val (.int i1), .val (.int i2), .val (.int i3), .val (.int i4), .val (.int (2 : Int32)), .val (.int k101), .val (.int k103), .val (.int k105), .val (.int k107), .val (.ref x109), .val (.ref b110), .val (.int (Int32.ofNat ((own_esc [k101, k103]) : List Int32).length)), .val (.ref r119)] [(.int (1 : Int32)), (.int (Int32.ofNat ((own_esc [k101, k103]) : List Int32).length)), (.ref b110), (.ref r119)])) := c124.trans (by
        refine XS.ifNo X124.here hx rfl (hb hby at_169) rfl ((if0 _ _).trans (feq (by decide : ¬ ((1 : Int32) = (0 : Int32)))).1) ?_
        refine XS.aload X124.here hx rfl (hb hby at_172) rfl rfl ?_
        refine XS.aload X124.here hx rfl (hb hby at_174) rfl rfl ?_
        refine XS.iload X124.here hx rfl (hb hby at_176) rfl ?_
        refine XS.iconst X124.here hx rfl (hb hby at_178) ?_
        exact Steps.refl _)
      obtain ⟨v126, T126, L126, X126, ⟨N126', rfl, e126⟩, c126'⟩ := own_stat X124 hx hml hZ109 hown109 (hw _ (List.mem_of_getElem? (i := 46) rfl)) (hw _ (List.mem_of_getElem? (i := 47) rfl)) (hw _ (List.mem_of_getElem? (i := 3) rfl)) (hw _ (List.mem_of_getElem? (i := 48) rfl)) (by decide) (kc := 0) (ks := 0) (h := T119.heap) (W := 0) (argsL := [(.ref r119), (.ref b110), (.int (Int32.ofNat ((own_esc [k101, k103]) : List Int32).length)), (.int (1 : Int32))]) (rest := []) (own_pay (W := 0) (rmAt l Z a0 hw (own_esc [k101, k103]) r119 t119 kb119 b110 k110 1 z fm T119.heap (((((O0.keep K109 all0).ext E110).keep K112 (allS ge110 all0)).keep K114 (allS ge110 all0)).keep K119 all0) E119 V119 Cd119 Kb119 (Vs116.keep K119 nin0) (own_escB hBs) (by decide) (Nat.le_trans hel (by decide)) SC hz SF hfm) hZ109 (hw _ (List.mem_of_getElem? (i := 48) rfl)) (hw _ (List.mem_of_getElem? (i := 3) rfl)) (by decide) (by decide)) c125 (lenOf pd_25 rfl) rfl (hb hby at_179) e124
      have N126 := Fr.app N124 N126'
      have c126 : Steps p.tables e below S0 (T126.setTop (mkF m 182 #[.val (.int i0), .val (.int i1), .val (.int i2), .val (.int i3), .val (.int i4), .val (.int (2 : Int32)), .val (.int k101), .val (.int k103), .val (.int k105), .val (.int k107), .val (.ref x109), .val (.ref b110), .val (.int (Int32.ofNat ((own_esc [k101, k103]) : List Int32).length)), .val (.ref r119)] [(.int (1 : Int32))])) := c126'
      have c127 : Steps p.tables e below S0 (T126.setTop (mkF m 192 #[.val (.int i0), .val (.int i1), .val (.int i2), .val (.int i3), .val (.int i4), .val (.int (2 : Int32)), .val (.int k101), .val (.int k103), .val (.int k105), .val (.int k107), .val (.ref x109), .val (.ref b110), .val (.int (Int32.ofNat ((own_esc [k101, k103]) : List Int32).length)), .val (.ref r119)] [(.int (2 : Int32)), (.int (Int32.ofNat ((own_esc [k101, k103]) : List Int32).length)), (.ref b110), (.ref r119)])) := c126.trans (by
        refine XS.ifNo X126.here hx rfl (hb hby at_182) rfl ((if0 _ _).trans (feq (by decide : ¬ ((1 : Int32) = (0 : Int32)))).1) ?_
        refine XS.aload X126.here hx rfl (hb hby at_185) rfl rfl ?_
        refine XS.aload X126.here hx rfl (hb hby at_187) rfl rfl ?_
        refine XS.iload X126.here hx rfl (hb hby at_189) rfl ?_
        refine XS.iconst X126.here hx rfl (hb hby at_191) ?_
        exact Steps.refl _)
      obtain ⟨v128, T128, L128, X128, ⟨N128', rfl, e128⟩, c128'⟩ := own_stat X126 hx hml hZ109 hown109 (hw _ (List.mem_of_getElem? (i := 46) rfl)) (hw _ (List.mem_of_getElem? (i := 47) rfl)) (hw _ (List.mem_of_getElem? (i := 3) rfl)) (hw _ (List.mem_of_getElem? (i := 48) rfl)) (by decide) (kc := 0) (ks := 0) (h := T119.heap) (W := 0) (argsL := [(.ref r119), (.ref b110), (.int (Int32.ofNat ((own_esc [k101, k103]) : List Int32).length)), (.int (2 : Int32))]) (rest := []) (own_pay (W := 0) (rmAt l Z a0 hw (own_esc [k101, k103]) r119 t119 kb119 b110 k110 2 z fm T119.heap (((((O0.keep K109 all0).ext E110).keep K112 (allS ge110 all0)).keep K114 (allS ge110 all0)).keep K119 all0) E119 V119 Cd119 Kb119 (Vs116.keep K119 nin0) (own_escB hBs) (by decide) (Nat.le_trans hel (by decide)) SC hz SF hfm) hZ109 (hw _ (List.mem_of_getElem? (i := 48) rfl)) (hw _ (List.mem_of_getElem? (i := 3) rfl)) (by decide) (by decide)) c127 (lenOf pd_25 rfl) rfl (hb hby at_192) e126
      have N128 := Fr.app N126 N128'
      have c128 : Steps p.tables e below S0 (T128.setTop (mkF m 195 #[.val (.int i0), .val (.int i1), .val (.int i2), .val (.int i3), .val (.int i4), .val (.int (2 : Int32)), .val (.int k101), .val (.int k103), .val (.int k105), .val (.int k107), .val (.ref x109), .val (.ref b110), .val (.int (Int32.ofNat ((own_esc [k101, k103]) : List Int32).length)), .val (.ref r119)] [(.int (1 : Int32))])) := c128'
      have c129 : Steps p.tables e below S0 (T128.setTop (mkF m 205 #[.val (.int i0), .val (.int i1), .val (.int i2), .val (.int i3), .val (.int i4), .val (.int (2 : Int32)), .val (.int k101), .val (.int k103), .val (.int k105), .val (.int k107), .val (.ref x109), .val (.ref b110), .val (.int (Int32.ofNat ((own_esc [k101, k103]) : List Int32).length)), .val (.ref r119)] [(.int (3 : Int32)), (.int (Int32.ofNat ((own_esc [k101, k103]) : List Int32).length)), (.ref b110), (.ref r119)])) := c128.trans (by
        refine XS.ifNo X128.here hx rfl (hb hby at_195) rfl ((if0 _ _).trans (feq (by decide : ¬ ((1 : Int32) = (0 : Int32)))).1) ?_
        refine XS.aload X128.here hx rfl (hb hby at_198) rfl rfl ?_
        refine XS.aload X128.here hx rfl (hb hby at_200) rfl rfl ?_
        refine XS.iload X128.here hx rfl (hb hby at_202) rfl ?_
        refine XS.iconst X128.here hx rfl (hb hby at_204) ?_
        exact Steps.refl _)
      obtain ⟨v130, T130, L130, X130, ⟨N130', rfl, e130⟩, c130'⟩ := own_stat X128 hx hml hZ109 hown109 (hw _ (List.mem_of_getElem? (i := 46) rfl)) (hw _ (List.mem_of_getElem? (i := 47) rfl)) (hw _ (List.mem_of_getElem? (i := 3) rfl)) (hw _ (List.mem_of_getElem? (i := 48) rfl)) (by decide) (kc := 0) (ks := 0) (h := T119.heap) (W := 0) (argsL := [(.ref r119), (.ref b110), (.int (Int32.ofNat ((own_esc [k101, k103]) : List Int32).length)), (.int (3 : Int32))]) (rest := []) (own_pay (W := 0) (rmAt l Z a0 hw (own_esc [k101, k103]) r119 t119 kb119 b110 k110 3 z fm T119.heap (((((O0.keep K109 all0).ext E110).keep K112 (allS ge110 all0)).keep K114 (allS ge110 all0)).keep K119 all0) E119 V119 Cd119 Kb119 (Vs116.keep K119 nin0) (own_escB hBs) (by decide) (Nat.le_trans hel (by decide)) SC hz SF hfm) hZ109 (hw _ (List.mem_of_getElem? (i := 48) rfl)) (hw _ (List.mem_of_getElem? (i := 3) rfl)) (by decide) (by decide)) c129 (lenOf pd_25 rfl) rfl (hb hby at_205) e128
      have N130 := Fr.app N128 N130'
      have c130 : Steps p.tables e below S0 (T130.setTop (mkF m 208 #[.val (.int i0), .val (.int i1), .val (.int i2), .val (.int i3), .val (.int i4), .val (.int (2 : Int32)), .val (.int k101), .val (.int k103), .val (.int k105), .val (.int k107), .val (.ref x109), .val (.ref b110), .val (.int (Int32.ofNat ((own_esc [k101, k103]) : List Int32).length)), .val (.ref r119)] [(.int (1 : Int32))])) := c130'
      have c131 : Steps p.tables e below S0 (T130.setTop (mkF m 218 #[.val (.int i0), .val (.int i1), .val (.int i2), .val (.int i3), .val (.int i4), .val (.int (2 : Int32)), .val (.int k101), .val (.int k103), .val (.int k105), .val (.int k107), .val (.ref x109), .val (.ref b110), .val (.int (Int32.ofNat ((own_esc [k101, k103]) : List Int32).length)), .val (.ref r119)] [(.int (4 : Int32)), (.int (Int32.ofNat ((own_esc [k101, k103]) : List Int32).length)), (.ref b110), (.ref r119)])) := c130.trans (by
        refine XS.ifNo X130.here hx rfl (hb hby at_208) rfl ((if0 _ _).trans (feq (by decide : ¬ ((1 : Int32) = (0 : Int32)))).1) ?_
        refine XS.aload X130.here hx rfl (hb hby at_211) rfl rfl ?_
        refine XS.aload X130.here hx rfl (hb hby at_213) rfl rfl ?_
        refine XS.iload X130.here hx rfl (hb hby at_215) rfl ?_
        refine XS.iconst X130.here hx rfl (hb hby at_217) ?_
        exact Steps.refl _)
      obtain ⟨v132, T132, L132, X132, ⟨N132', rfl, e132⟩, c132'⟩ := own_stat X130 hx hml hZ109 hown109 (hw _ (List.mem_of_getElem? (i := 46) rfl)) (hw _ (List.mem_of_getElem? (i := 47) rfl)) (hw _ (List.mem_of_getElem? (i := 3) rfl)) (hw _ (List.mem_of_getElem? (i := 48) rfl)) (by decide) (kc := 0) (ks := 0) (h := T119.heap) (W := 0) (argsL := [(.ref r119), (.ref b110), (.int (Int32.ofNat ((own_esc [k101, k103]) : List Int32).length)), (.int (4 : Int32))]) (rest := []) (own_pay (W := 0) (rmAt l Z a0 hw (own_esc [k101, k103]) r119 t119 kb119 b110 k110 4 z fm T119.heap (((((O0.keep K109 all0).ext E110).keep K112 (allS ge110 all0)).keep K114 (allS ge110 all0)).keep K119 all0) E119 V119 Cd119 Kb119 (Vs116.keep K119 nin0) (own_escB hBs) (by decide) (Nat.le_trans hel (by decide)) SC hz SF hfm) hZ109 (hw _ (List.mem_of_getElem? (i := 48) rfl)) (hw _ (List.mem_of_getElem? (i := 3) rfl)) (by decide) (by decide)) c131 (lenOf pd_25 rfl) rfl (hb hby at_218) e130
      have N132 := Fr.app N130 N132'
      have c132 : Steps p.tables e below S0 (T132.setTop (mkF m 221 #[.val (.int i0), .val (.int i1), .val (.int i2), .val (.int i3), .val (.int i4), .val (.int (2 : Int32)), .val (.int k101), .val (.int k103), .val (.int k105), .val (.int k107), .val (.ref x109), .val (.ref b110), .val (.int (Int32.ofNat ((own_esc [k101, k103]) : List Int32).length)), .val (.ref r119)] [(.int (1 : Int32))])) := c132'
      have c133 : Steps p.tables e below S0 (T132.setTop (mkF m 231 #[.val (.int i0), .val (.int i1), .val (.int i2), .val (.int i3), .val (.int i4), .val (.int (2 : Int32)), .val (.int k101), .val (.int k103), .val (.int k105), .val (.int k107), .val (.ref x109), .val (.ref b110), .val (.int (Int32.ofNat ((own_esc [k101, k103]) : List Int32).length)), .val (.ref r119)] [(.int (5 : Int32)), (.int (Int32.ofNat ((own_esc [k101, k103]) : List Int32).length)), (.ref b110), (.ref r119)])) := c132.trans (by
        refine XS.ifNo X132.here hx rfl (hb hby at_221) rfl ((if0 _ _).trans (feq (by decide : ¬ ((1 : Int32) = (0 : Int32)))).1) ?_
        refine XS.aload X132.here hx rfl (hb hby at_224) rfl rfl ?_
        refine XS.aload X132.here hx rfl (hb hby at_226) rfl rfl ?_
        refine XS.iload X132.here hx rfl (hb hby at_228) rfl ?_
        refine XS.iconst X132.here hx rfl (hb hby at_230) ?_
        exact Steps.refl _)
      obtain ⟨v134, T134, L134, X134, ⟨N134', rfl, e134⟩, c134'⟩ := own_stat X132 hx hml hZ109 hown109 (hw _ (List.mem_of_getElem? (i := 46) rfl)) (hw _ (List.mem_of_getElem? (i := 47) rfl)) (hw _ (List.mem_of_getElem? (i := 3) rfl)) (hw _ (List.mem_of_getElem? (i := 48) rfl)) (by decide) (kc := 0) (ks := 0) (h := T119.heap) (W := 0) (argsL := [(.ref r119), (.ref b110), (.int (Int32.ofNat ((own_esc [k101, k103]) : List Int32).length)), (.int (5 : Int32))]) (rest := []) (own_pay (W := 0) (rmAt l Z a0 hw (own_esc [k101, k103]) r119 t119 kb119 b110 k110 5 z fm T119.heap (((((O0.keep K109 all0).ext E110).keep K112 (allS ge110 all0)).keep K114 (allS ge110 all0)).keep K119 all0) E119 V119 Cd119 Kb119 (Vs116.keep K119 nin0) (own_escB hBs) (by decide) (Nat.le_trans hel (by decide)) SC hz SF hfm) hZ109 (hw _ (List.mem_of_getElem? (i := 48) rfl)) (hw _ (List.mem_of_getElem? (i := 3) rfl)) (by decide) (by decide)) c133 (lenOf pd_25 rfl) rfl (hb hby at_231) e132
      have N134 := Fr.app N132 N134'
      have c134 : Steps p.tables e below S0 (T134.setTop (mkF m 234 #[.val (.int i0), .val (.int i1), .val (.int i2), .val (.int i3), .val (.int i4), .val (.int (2 : Int32)), .val (.int k101), .val (.int k103), .val (.int k105), .val (.int k107), .val (.ref x109), .val (.ref b110), .val (.int (Int32.ofNat ((own_esc [k101, k103]) : List Int32).length)), .val (.ref r119)] [(.int (1 : Int32))])) := c134'
      have c135 : Steps p.tables e below S0 (T134.setTop (mkF m 245 #[.val (.int i0), .val (.int i1), .val (.int i2), .val (.int i3), .val (.int i4), .val (.int (2 : Int32)), .val (.int k101), .val (.int k103), .val (.int k105), .val (.int k107), .val (.ref x109), .val (.ref b110), .val (.int (Int32.ofNat ((own_esc [k101, k103]) : List Int32).length)), .val (.ref r119)] [(.int (6 : Int32)), (.int (Int32.ofNat ((own_esc [k101, k103]) : List Int32).length)), (.ref b110), (.ref r119)])) := c134.trans (by
        refine XS.ifNo X134.here hx rfl (hb hby at_234) rfl ((if0 _ _).trans (feq (by decide : ¬ ((1 : Int32) = (0 : Int32)))).1) ?_
        refine XS.aload X134.here hx rfl (hb hby at_237) rfl rfl ?_
        refine XS.aload X134.here hx rfl (hb hby at_239) rfl rfl ?_
        refine XS.iload X134.here hx rfl (hb hby at_241) rfl ?_
        refine XS.bipush X134.here hx rfl (hb hby at_243) ?_
        exact Steps.refl _)
      obtain ⟨v136, T136, L136, X136, ⟨N136', rfl, e136⟩, c136'⟩ := own_stat X134 hx hml hZ109 hown109 (hw _ (List.mem_of_getElem? (i := 46) rfl)) (hw _ (List.mem_of_getElem? (i := 47) rfl)) (hw _ (List.mem_of_getElem? (i := 3) rfl)) (hw _ (List.mem_of_getElem? (i := 48) rfl)) (by decide) (kc := 0) (ks := 0) (h := T119.heap) (W := 0) (argsL := [(.ref r119), (.ref b110), (.int (Int32.ofNat ((own_esc [k101, k103]) : List Int32).length)), (.int (6 : Int32))]) (rest := []) (own_pay (W := 0) (rmAt l Z a0 hw (own_esc [k101, k103]) r119 t119 kb119 b110 k110 6 z fm T119.heap (((((O0.keep K109 all0).ext E110).keep K112 (allS ge110 all0)).keep K114 (allS ge110 all0)).keep K119 all0) E119 V119 Cd119 Kb119 (Vs116.keep K119 nin0) (own_escB hBs) (by decide) (Nat.le_trans hel (by decide)) SC hz SF hfm) hZ109 (hw _ (List.mem_of_getElem? (i := 48) rfl)) (hw _ (List.mem_of_getElem? (i := 3) rfl)) (by decide) (by decide)) c135 (lenOf pd_25 rfl) rfl (hb hby at_245) e134
      have N136 := Fr.app N134 N136'
      have c136 : Steps p.tables e below S0 (T136.setTop (mkF m 248 #[.val (.int i0), .val (.int i1), .val (.int i2), .val (.int i3), .val (.int i4), .val (.int (2 : Int32)), .val (.int k101), .val (.int k103), .val (.int k105), .val (.int k107), .val (.ref x109), .val (.ref b110), .val (.int (Int32.ofNat ((own_esc [k101, k103]) : List Int32).length)), .val (.ref r119)] [(.int (1 : Int32))])) := c136'
      have c137 : Steps p.tables e below S0 (T136.setTop (mkF m 259 #[.val (.int i0), .val (.int i1), .val (.int i2), .val (.int i3), .val (.int i4), .val (.int (2 : Int32)), .val (.int k101), .val (.int k103), .val (.int k105), .val (.int k107), .val (.ref x109), .val (.ref b110), .val (.int (Int32.ofNat ((own_esc [k101, k103]) : List Int32).length)), .val (.ref r119)] [(.int (7 : Int32)), (.int (Int32.ofNat ((own_esc [k101, k103]) : List Int32).length)), (.ref b110), (.ref r119)])) := c136.trans (by
        refine XS.ifNo X136.here hx rfl (hb hby at_248) rfl ((if0 _ _).trans (feq (by decide : ¬ ((1 : Int32) = (0 : Int32)))).1) ?_
        refine XS.aload X136.here hx rfl (hb hby at_251) rfl rfl ?_
        refine XS.aload X136.here hx rfl (hb hby at_253) rfl rfl ?_
        refine XS.iload X136.here hx rfl (hb hby at_255) rfl ?_
        refine XS.bipush X136.here hx rfl (hb hby at_257) ?_
        exact Steps.refl _)
      obtain ⟨v138, T138, L138, X138, ⟨N138', rfl, e138⟩, c138'⟩ := own_stat X136 hx hml hZ109 hown109 (hw _ (List.mem_of_getElem? (i := 46) rfl)) (hw _ (List.mem_of_getElem? (i := 47) rfl)) (hw _ (List.mem_of_getElem? (i := 3) rfl)) (hw _ (List.mem_of_getElem? (i := 48) rfl)) (by decide) (kc := 0) (ks := 0) (h := T119.heap) (W := 0) (argsL := [(.ref r119), (.ref b110), (.int (Int32.ofNat ((own_esc [k101, k103]) : List Int32).length)), (.int (7 : Int32))]) (rest := []) (own_pay (W := 0) (rmAt l Z a0 hw (own_esc [k101, k103]) r119 t119 kb119 b110 k110 7 z fm T119.heap (((((O0.keep K109 all0).ext E110).keep K112 (allS ge110 all0)).keep K114 (allS ge110 all0)).keep K119 all0) E119 V119 Cd119 Kb119 (Vs116.keep K119 nin0) (own_escB hBs) (by decide) (Nat.le_trans hel (by decide)) SC hz SF hfm) hZ109 (hw _ (List.mem_of_getElem? (i := 48) rfl)) (hw _ (List.mem_of_getElem? (i := 3) rfl)) (by decide) (by decide)) c137 (lenOf pd_25 rfl) rfl (hb hby at_259) e136
      have N138 := Fr.app N136 N138'
      have c138 : Steps p.tables e below S0 (T138.setTop (mkF m 262 #[.val (.int i0), .val (.int i1), .val (.int i2), .val (.int i3), .val (.int i4), .val (.int (2 : Int32)), .val (.int k101), .val (.int k103), .val (.int k105), .val (.int k107), .val (.ref x109), .val (.ref b110), .val (.int (Int32.ofNat ((own_esc [k101, k103]) : List Int32).length)), .val (.ref r119)] [(.int (1 : Int32))])) := c138'
      have c139 : Steps p.tables e below S0 (T138.setTop (mkF m 270 #[.val (.int i0), .val (.int i1), .val (.int i2), .val (.int i3), .val (.int i4), .val (.int (2 : Int32)), .val (.int k101), .val (.int k103), .val (.int k105), .val (.int k107), .val (.ref x109), .val (.ref b110), .val (.int (Int32.ofNat ((own_esc [k101, k103]) : List Int32).length)), .val (.ref r119)] [(.int (1 : Int32))])) := c138.trans (by
        refine XS.ifNo X138.here hx rfl (hb hby at_262) rfl ((if0 _ _).trans (feq (by decide : ¬ ((1 : Int32) = (0 : Int32)))).1) ?_
        refine XS.iconst X138.here hx rfl (hb hby at_265) ?_
        refine XS.goto X138.here hx rfl (pc0 := 266) (pc' := 270) rfl (hb hby at_266) (by decide) (by decide) ?_
        exact Steps.refl _)
      refine ⟨T138, T109.vm, _, (some (.int (1 : Int32))), _, _, _, X138, by decide, by decide, (fun q => by cases q), N138, hS109, by rw [e138]; exact hk119, hZ109, by rw [e138]; exact CR119, ?_, fun fs hr => ?_⟩
      · skip
        exact rfl
      · exact c139.trans (retN X138 hx (t := .boolean) hret (by simp) (hb hby at_270) hr)
    · skip
      have c141 : Steps p.tables e below S0 (T121.setTop (mkF m 166 #[.val (.int i0), .val (.int i1), .val (.int i2), .val (.int i3), .val (.int i4), .val (.int (2 : Int32)), .val (.int k101), .val (.int k103), .val (.int k105), .val (.int k107), .val (.ref x109), .val (.ref b110), .val (.int (Int32.ofNat ((own_esc [k101, k103]) : List Int32).length)), .val (.ref r119)] [(.int (0 : Int32)), (.int (Int32.ofNat ((own_esc [k101, k103]) : List Int32).length)), (.ref b110), (.ref r119)])) := c122.trans (by
        refine XS.icmpYes X121.here hx rfl (pc0 := 147) (pc' := 159) rfl (hb hby at_147) rfl (feq (own_neN (b := 2) (Nat.lt_of_le_of_lt hel (by decide)) (by decide) (fun q => Nat.lt_irrefl _ (Nat.lt_of_lt_of_eq hg119 q)))).2 (by decide) (by decide) ?_
        refine XS.aload X121.here hx rfl (hb hby at_159) rfl rfl ?_
        refine XS.aload X121.here hx rfl (hb hby at_161) rfl rfl ?_
        refine XS.iload X121.here hx rfl (hb hby at_163) rfl ?_
        refine XS.iconst X121.here hx rfl (hb hby at_165) ?_
        exact Steps.refl _)
      obtain ⟨v142, T142, L142, X142, ⟨N142', rfl, e142⟩, c142'⟩ := own_stat X121 hx hml hZ109 hown109 (hw _ (List.mem_of_getElem? (i := 46) rfl)) (hw _ (List.mem_of_getElem? (i := 47) rfl)) (hw _ (List.mem_of_getElem? (i := 3) rfl)) (hw _ (List.mem_of_getElem? (i := 48) rfl)) (by decide) (kc := 0) (ks := 0) (h := T119.heap) (W := 0) (argsL := [(.ref r119), (.ref b110), (.int (Int32.ofNat ((own_esc [k101, k103]) : List Int32).length)), (.int (0 : Int32))]) (rest := []) (own_pay (W := 0) (rmAt l Z a0 hw (own_esc [k101, k103]) r119 t119 kb119 b110 k110 0 z fm T119.heap (((((O0.keep K109 all0).ext E110).keep K112 (allS ge110 all0)).keep K114 (allS ge110 all0)).keep K119 all0) E119 V119 Cd119 Kb119 (Vs116.keep K119 nin0) (own_escB hBs) (by decide) (Nat.le_trans hel (by decide)) SC hz SF hfm) hZ109 (hw _ (List.mem_of_getElem? (i := 48) rfl)) (hw _ (List.mem_of_getElem? (i := 3) rfl)) (by decide) (by decide)) c141 (lenOf pd_25 rfl) rfl (hb hby at_166) e121
      have N142 := Fr.app N121 N142'
      have c142 : Steps p.tables e below S0 (T142.setTop (mkF m 169 #[.val (.int i0), .val (.int i1), .val (.int i2), .val (.int i3), .val (.int i4), .val (.int (2 : Int32)), .val (.int k101), .val (.int k103), .val (.int k105), .val (.int k107), .val (.ref x109), .val (.ref b110), .val (.int (Int32.ofNat ((own_esc [k101, k103]) : List Int32).length)), .val (.ref r119)] [(.int (1 : Int32))])) := c142'
      have c143 : Steps p.tables e below S0 (T142.setTop (mkF m 179 #[.val (.int i0), .val (.int i1), .val (.int i2), .val (.int i3), .val (.int i4), .val (.int (2 : Int32)), .val (.int k101), .val (.int k103), .val (.int k105), .val (.int k107), .val (.ref x109), .val (.ref b110), .val (.int (Int32.ofNat ((own_esc [k101, k103]) : List Int32).length)), .val (.ref r119)] [(.int (1 : Int32)), (.int (Int32.ofNat ((own_esc [k101, k103]) : List Int32).length)), (.ref b110), (.ref r119)])) := c142.trans (by
        refine XS.ifNo X142.here hx rfl (hb hby at_169) rfl ((if0 _ _).trans (feq (by decide : ¬ ((1 : Int32) = (0 : Int32)))).1) ?_
        refine XS.aload X142.here hx rfl (hb hby at_172) rfl rfl ?_
        refine XS.aload X142.here hx rfl (hb hby at_174) rfl rfl ?_
        refine XS.iload X142.here hx rfl (hb hby at_176) rfl ?_
        refine XS.iconst X142.here hx rfl (hb hby at_178) ?_
        exact Steps.refl _)
      obtain ⟨v144, T144, L144, X144, ⟨N144', rfl, e144⟩, c144'⟩ := own_stat X142 hx hml hZ109 hown109 (hw _ (List.mem_of_getElem? (i := 46) rfl)) (hw _ (List.mem_of_getElem? (i := 47) rfl)) (hw _ (List.mem_of_getElem? (i := 3) rfl)) (hw _ (List.mem_of_getElem? (i := 48) rfl)) (by decide) (kc := 0) (ks := 0) (h := T119.heap) (W := 0) (argsL := [(.ref r119), (.ref b110), (.int (Int32.ofNat ((own_esc [k101, k103]) : List Int32).length)), (.int (1 : Int32))]) (rest := []) (own_pay (W := 0) (rmAt l Z a0 hw (own_esc [k101, k103]) r119 t119 kb119 b110 k110 1 z fm T119.heap (((((O0.keep K109 all0).ext E110).keep K112 (allS ge110 all0)).keep K114 (allS ge110 all0)).keep K119 all0) E119 V119 Cd119 Kb119 (Vs116.keep K119 nin0) (own_escB hBs) (by decide) (Nat.le_trans hel (by decide)) SC hz SF hfm) hZ109 (hw _ (List.mem_of_getElem? (i := 48) rfl)) (hw _ (List.mem_of_getElem? (i := 3) rfl)) (by decide) (by decide)) c143 (lenOf pd_25 rfl) rfl (hb hby at_179) e142
      have N144 := Fr.app N142 N144'
      have c144 : Steps p.tables e below S0 (T144.setTop (mkF m 182 #[.val (.int i0), .val (.int i1), .val (.int i2), .val (.int i3), .val (.int i4), .val (.int (2 : Int32)), .val (.int k101), .val (.int k103), .val (.int k105), .val (.int k107), .val (.ref x109), .val (.ref b110), .val (.int (Int32.ofNat ((own_esc [k101, k103]) : List Int32).length)), .val (.ref r119)] [(.int (1 : Int32))])) := c144'
      have c145 : Steps p.tables e below S0 (T144.setTop (mkF m 192 #[.val (.int i0), .val (.int i1), .val (.int i2), .val (.int i3), .val (.int i4), .val (.int (2 : Int32)), .val (.int k101), .val (.int k103), .val (.int k105), .val (.int k107), .val (.ref x109), .val (.ref b110), .val (.int (Int32.ofNat ((own_esc [k101, k103]) : List Int32).length)), .val (.ref r119)] [(.int (2 : Int32)), (.int (Int32.ofNat ((own_esc [k101, k103]) : List Int32).length)), (.ref b110), (.ref r119)])) := c144.trans (by
        refine XS.ifNo X144.here hx rfl (hb hby at_182) rfl ((if0 _ _).trans (feq (by decide : ¬ ((1 : Int32) = (0 : Int32)))).1) ?_
        refine XS.aload X144.here hx rfl (hb hby at_185) rfl rfl ?_
        refine XS.aload X144.here hx rfl (hb hby at_187) rfl rfl ?_
        refine XS.iload X144.here hx rfl (hb hby at_189) rfl ?_
        refine XS.iconst X144.here hx rfl (hb hby at_191) ?_
        exact Steps.refl _)
      obtain ⟨v146, T146, L146, X146, ⟨N146', rfl, e146⟩, c146'⟩ := own_stat X144 hx hml hZ109 hown109 (hw _ (List.mem_of_getElem? (i := 46) rfl)) (hw _ (List.mem_of_getElem? (i := 47) rfl)) (hw _ (List.mem_of_getElem? (i := 3) rfl)) (hw _ (List.mem_of_getElem? (i := 48) rfl)) (by decide) (kc := 0) (ks := 0) (h := T119.heap) (W := 0) (argsL := [(.ref r119), (.ref b110), (.int (Int32.ofNat ((own_esc [k101, k103]) : List Int32).length)), (.int (2 : Int32))]) (rest := []) (own_pay (W := 0) (rmAt l Z a0 hw (own_esc [k101, k103]) r119 t119 kb119 b110 k110 2 z fm T119.heap (((((O0.keep K109 all0).ext E110).keep K112 (allS ge110 all0)).keep K114 (allS ge110 all0)).keep K119 all0) E119 V119 Cd119 Kb119 (Vs116.keep K119 nin0) (own_escB hBs) (by decide) (Nat.le_trans hel (by decide)) SC hz SF hfm) hZ109 (hw _ (List.mem_of_getElem? (i := 48) rfl)) (hw _ (List.mem_of_getElem? (i := 3) rfl)) (by decide) (by decide)) c145 (lenOf pd_25 rfl) rfl (hb hby at_192) e144
      have N146 := Fr.app N144 N146'
      have c146 : Steps p.tables e below S0 (T146.setTop (mkF m 195 #[.val (.int i0), .val (.int i1), .val (.int i2), .val (.int i3), .val (.int i4), .val (.int (2 : Int32)), .val (.int k101), .val (.int k103), .val (.int k105), .val (.int k107), .val (.ref x109), .val (.ref b110), .val (.int (Int32.ofNat ((own_esc [k101, k103]) : List Int32).length)), .val (.ref r119)] [(.int (1 : Int32))])) := c146'
      have c147 : Steps p.tables e below S0 (T146.setTop (mkF m 205 #[.val (.int i0), .val (.int i1), .val (.int i2), .val (.int i3), .val (.int i4), .val (.int (2 : Int32)), .val (.int k101), .val (.int k103), .val (.int k105), .val (.int k107), .val (.ref x109), .val (.ref b110), .val (.int (Int32.ofNat ((own_esc [k101, k103]) : List Int32).length)), .val (.ref r119)] [(.int (3 : Int32)), (.int (Int32.ofNat ((own_esc [k101, k103]) : List Int32).length)), (.ref b110), (.ref r119)])) := c146.trans (by
        refine XS.ifNo X146.here hx rfl (hb hby at_195) rfl ((if0 _ _).trans (feq (by decide : ¬ ((1 : Int32) = (0 : Int32)))).1) ?_
        refine XS.aload X146.here hx rfl (hb hby at_198) rfl rfl ?_
        refine XS.aload X146.here hx rfl (hb hby at_200) rfl rfl ?_
        refine XS.iload X146.here hx rfl (hb hby at_202) rfl ?_
        refine XS.iconst X146.here hx rfl (hb hby at_204) ?_
        exact Steps.refl _)
      obtain ⟨v148, T148, L148, X148, ⟨N148', rfl, e148⟩, c148'⟩ := own_stat X146 hx hml hZ109 hown109 (hw _ (List.mem_of_getElem? (i := 46) rfl)) (hw _ (List.mem_of_getElem? (i := 47) rfl)) (hw _ (List.mem_of_getElem? (i := 3) rfl)) (hw _ (List.mem_of_getElem? (i := 48) rfl)) (by decide) (kc := 0) (ks := 0) (h := T119.heap) (W := 0) (argsL := [(.ref r119), (.ref b110), (.int (Int32.ofNat ((own_esc [k101, k103]) : List Int32).length)), (.int (3 : Int32))]) (rest := []) (own_pay (W := 0) (rmAt l Z a0 hw (own_esc [k101, k103]) r119 t119 kb119 b110 k110 3 z fm T119.heap (((((O0.keep K109 all0).ext E110).keep K112 (allS ge110 all0)).keep K114 (allS ge110 all0)).keep K119 all0) E119 V119 Cd119 Kb119 (Vs116.keep K119 nin0) (own_escB hBs) (by decide) (Nat.le_trans hel (by decide)) SC hz SF hfm) hZ109 (hw _ (List.mem_of_getElem? (i := 48) rfl)) (hw _ (List.mem_of_getElem? (i := 3) rfl)) (by decide) (by decide)) c147 (lenOf pd_25 rfl) rfl (hb hby at_205) e146
      have N148 := Fr.app N146 N148'
      have c148 : Steps p.tables e below S0 (T148.setTop (mkF m 208 #[.val (.int i0), .val (.int i1), .val (.int i2), .val (.int i3), .val (.int i4), .val (.int (2 : Int32)), .val (.int k101), .val (.int k103), .val (.int k105), .val (.int k107), .val (.ref x109), .val (.ref b110), .val (.int (Int32.ofNat ((own_esc [k101, k103]) : List Int32).length)), .val (.ref r119)] [(.int (1 : Int32))])) := c148'
      have c149 : Steps p.tables e below S0 (T148.setTop (mkF m 218 #[.val (.int i0), .val (.int i1), .val (.int i2), .val (.int i3), .val (.int i4), .val (.int (2 : Int32)), .val (.int k101), .val (.int k103), .val (.int k105), .val (.int k107), .val (.ref x109), .val (.ref b110), .val (.int (Int32.ofNat ((own_esc [k101, k103]) : List Int32).length)), .val (.ref r119)] [(.int (4 : Int32)), (.int (Int32.ofNat ((own_esc [k101, k103]) : List Int32).length)), (.ref b110), (.ref r119)])) := c148.trans (by
        refine XS.ifNo X148.here hx rfl (hb hby at_208) rfl ((if0 _ _).trans (feq (by decide : ¬ ((1 : Int32) = (0 : Int32)))).1) ?_
        refine XS.aload X148.here hx rfl (hb hby at_211) rfl rfl ?_
        refine XS.aload X148.here hx rfl (hb hby at_213) rfl rfl ?_
        refine XS.iload X148.here hx rfl (hb hby at_215) rfl ?_
        refine XS.iconst X148.here hx rfl (hb hby at_217) ?_
        exact Steps.refl _)
      obtain ⟨v150, T150, L150, X150, ⟨N150', rfl, e150⟩, c150'⟩ := own_stat X148 hx hml hZ109 hown109 (hw _ (List.mem_of_getElem? (i := 46) rfl)) (hw _ (List.mem_of_getElem? (i := 47) rfl)) (hw _ (List.mem_of_getElem? (i := 3) rfl)) (hw _ (List.mem_of_getElem? (i := 48) rfl)) (by decide) (kc := 0) (ks := 0) (h := T119.heap) (W := 0) (argsL := [(.ref r119), (.ref b110), (.int (Int32.ofNat ((own_esc [k101, k103]) : List Int32).length)), (.int (4 : Int32))]) (rest := []) (own_pay (W := 0) (rmAt l Z a0 hw (own_esc [k101, k103]) r119 t119 kb119 b110 k110 4 z fm T119.heap (((((O0.keep K109 all0).ext E110).keep K112 (allS ge110 all0)).keep K114 (allS ge110 all0)).keep K119 all0) E119 V119 Cd119 Kb119 (Vs116.keep K119 nin0) (own_escB hBs) (by decide) (Nat.le_trans hel (by decide)) SC hz SF hfm) hZ109 (hw _ (List.mem_of_getElem? (i := 48) rfl)) (hw _ (List.mem_of_getElem? (i := 3) rfl)) (by decide) (by decide)) c149 (lenOf pd_25 rfl) rfl (hb hby at_218) e148
      have N150 := Fr.app N148 N150'
      have c150 : Steps p.tables e below S0 (T150.setTop (mkF m 221 #[.val (.int i0), .val (.int i1), .val (.int i2), .val (.int i3), .val (.int i4), .val (.int (2 : Int32)), .val (.int k101), .val (.int k103), .val (.int k105), .val (.int k107), .val (.ref x109), .val (.ref b110), .val (.int (Int32.ofNat ((own_esc [k101, k103]) : List Int32).length)), .val (.ref r119)] [(.int (1 : Int32))])) := c150'
      have c151 : Steps p.tables e below S0 (T150.setTop (mkF m 231 #[.val (.int i0), .val (.int i1), .val (.int i2), .val (.int i3), .val (.int i4), .val (.int (2 : Int32)), .val (.int k101), .val (.int k103), .val (.int k105), .val (.int k107), .val (.ref x109), .val (.ref b110), .val (.int (Int32.ofNat ((own_esc [k101, k103]) : List Int32).length)), .val (.ref r119)] [(.int (5 : Int32)), (.int (Int32.ofNat ((own_esc [k101, k103]) : List Int32).length)), (.ref b110), (.ref r119)])) := c150.trans (by
        refine XS.ifNo X150.here hx rfl (hb hby at_221) rfl ((if0 _ _).trans (feq (by decide : ¬ ((1 : Int32) = (0 : Int32)))).1) ?_
        refine XS.aload X150.here hx rfl (hb hby at_224) rfl rfl ?_
        refine XS.aload X150.here hx rfl (hb hby at_226) rfl rfl ?_
        refine XS.iload X150.here hx rfl (hb hby at_228) rfl ?_
        refine XS.iconst X150.here hx rfl (hb hby at_230) ?_
        exact Steps.refl _)
      obtain ⟨v152, T152, L152, X152, ⟨N152', rfl, e152⟩, c152'⟩ := own_stat X150 hx hml hZ109 hown109 (hw _ (List.mem_of_getElem? (i := 46) rfl)) (hw _ (List.mem_of_getElem? (i := 47) rfl)) (hw _ (List.mem_of_getElem? (i := 3) rfl)) (hw _ (List.mem_of_getElem? (i := 48) rfl)) (by decide) (kc := 0) (ks := 0) (h := T119.heap) (W := 0) (argsL := [(.ref r119), (.ref b110), (.int (Int32.ofNat ((own_esc [k101, k103]) : List Int32).length)), (.int (5 : Int32))]) (rest := []) (own_pay (W := 0) (rmAt l Z a0 hw (own_esc [k101, k103]) r119 t119 kb119 b110 k110 5 z fm T119.heap (((((O0.keep K109 all0).ext E110).keep K112 (allS ge110 all0)).keep K114 (allS ge110 all0)).keep K119 all0) E119 V119 Cd119 Kb119 (Vs116.keep K119 nin0) (own_escB hBs) (by decide) (Nat.le_trans hel (by decide)) SC hz SF hfm) hZ109 (hw _ (List.mem_of_getElem? (i := 48) rfl)) (hw _ (List.mem_of_getElem? (i := 3) rfl)) (by decide) (by decide)) c151 (lenOf pd_25 rfl) rfl (hb hby at_231) e150
      have N152 := Fr.app N150 N152'
      have c152 : Steps p.tables e below S0 (T152.setTop (mkF m 234 #[.val (.int i0), .val (.int i1), .val (.int i2), .val (.int i3), .val (.int i4), .val (.int (2 : Int32)), .val (.int k101), .val (.int k103), .val (.int k105), .val (.int k107), .val (.ref x109), .val (.ref b110), .val (.int (Int32.ofNat ((own_esc [k101, k103]) : List Int32).length)), .val (.ref r119)] [(.int (1 : Int32))])) := c152'
      have c153 : Steps p.tables e below S0 (T152.setTop (mkF m 245 #[.val (.int i0), .val (.int i1), .val (.int i2), .val (.int i3), .val (.int i4), .val (.int (2 : Int32)), .val (.int k101), .val (.int k103), .val (.int k105), .val (.int k107), .val (.ref x109), .val (.ref b110), .val (.int (Int32.ofNat ((own_esc [k101, k103]) : List Int32).length)), .val (.ref r119)] [(.int (6 : Int32)), (.int (Int32.ofNat ((own_esc [k101, k103]) : List Int32).length)), (.ref b110), (.ref r119)])) := c152.trans (by
        refine XS.ifNo X152.here hx rfl (hb hby at_234) rfl ((if0 _ _).trans (feq (by decide : ¬ ((1 : Int32) = (0 : Int32)))).1) ?_
        refine XS.aload X152.here hx rfl (hb hby at_237) rfl rfl ?_
        refine XS.aload X152.here hx rfl (hb hby at_239) rfl rfl ?_
        refine XS.iload X152.here hx rfl (hb hby at_241) rfl ?_
        refine XS.bipush X152.here hx rfl (hb hby at_243) ?_
        exact Steps.refl _)
      obtain ⟨v154, T154, L154, X154, ⟨N154', rfl, e154⟩, c154'⟩ := own_stat X152 hx hml hZ109 hown109 (hw _ (List.mem_of_getElem? (i := 46) rfl)) (hw _ (List.mem_of_getElem? (i := 47) rfl)) (hw _ (List.mem_of_getElem? (i := 3) rfl)) (hw _ (List.mem_of_getElem? (i := 48) rfl)) (by decide) (kc := 0) (ks := 0) (h := T119.heap) (W := 0) (argsL := [(.ref r119), (.ref b110), (.int (Int32.ofNat ((own_esc [k101, k103]) : List Int32).length)), (.int (6 : Int32))]) (rest := []) (own_pay (W := 0) (rmAt l Z a0 hw (own_esc [k101, k103]) r119 t119 kb119 b110 k110 6 z fm T119.heap (((((O0.keep K109 all0).ext E110).keep K112 (allS ge110 all0)).keep K114 (allS ge110 all0)).keep K119 all0) E119 V119 Cd119 Kb119 (Vs116.keep K119 nin0) (own_escB hBs) (by decide) (Nat.le_trans hel (by decide)) SC hz SF hfm) hZ109 (hw _ (List.mem_of_getElem? (i := 48) rfl)) (hw _ (List.mem_of_getElem? (i := 3) rfl)) (by decide) (by decide)) c153 (lenOf pd_25 rfl) rfl (hb hby at_245) e152
      have N154 := Fr.app N152 N154'
      have c154 : Steps p.tables e below S0 (T154.setTop (mkF m 248 #[.val (.int i0), .val (.int i1), .val (.int i2), .val (.int i3), .val (.int i4), .val (.int (2 : Int32)), .val (.int k101), .val (.int k103), .val (.int k105), .val (.int k107), .val (.ref x109), .val (.ref b110), .val (.int (Int32.ofNat ((own_esc [k101, k103]) : List Int32).length)), .val (.ref r119)] [(.int (1 : Int32))])) := c154'
      have c155 : Steps p.tables e below S0 (T154.setTop (mkF m 259 #[.val (.int i0), .val (.int i1), .val (.int i2), .val (.int i3), .val (.int i4), .val (.int (2 : Int32)), .val (.int k101), .val (.int k103), .val (.int k105), .val (.int k107), .val (.ref x109), .val (.ref b110), .val (.int (Int32.ofNat ((own_esc [k101, k103]) : List Int32).length)), .val (.ref r119)] [(.int (7 : Int32)), (.int (Int32.ofNat ((own_esc [k101, k103]) : List Int32).length)), (.ref b110), (.ref r119)])) := c154.trans (by
        refine XS.ifNo X154.here hx rfl (hb hby at_248) rfl ((if0 _ _).trans (feq (by decide : ¬ ((1 : Int32) = (0 : Int32)))).1) ?_
        refine XS.aload X154.here hx rfl (hb hby at_251) rfl rfl ?_
        refine XS.aload X154.here hx rfl (hb hby at_253) rfl rfl ?_
        refine XS.iload X154.here hx rfl (hb hby at_255) rfl ?_
        refine XS.bipush X154.here hx rfl (hb hby at_257) ?_
        exact Steps.refl _)
      obtain ⟨v156, T156, L156, X156, ⟨N156', rfl, e156⟩, c156'⟩ := own_stat X154 hx hml hZ109 hown109 (hw _ (List.mem_of_getElem? (i := 46) rfl)) (hw _ (List.mem_of_getElem? (i := 47) rfl)) (hw _ (List.mem_of_getElem? (i := 3) rfl)) (hw _ (List.mem_of_getElem? (i := 48) rfl)) (by decide) (kc := 0) (ks := 0) (h := T119.heap) (W := 0) (argsL := [(.ref r119), (.ref b110), (.int (Int32.ofNat ((own_esc [k101, k103]) : List Int32).length)), (.int (7 : Int32))]) (rest := []) (own_pay (W := 0) (rmAt l Z a0 hw (own_esc [k101, k103]) r119 t119 kb119 b110 k110 7 z fm T119.heap (((((O0.keep K109 all0).ext E110).keep K112 (allS ge110 all0)).keep K114 (allS ge110 all0)).keep K119 all0) E119 V119 Cd119 Kb119 (Vs116.keep K119 nin0) (own_escB hBs) (by decide) (Nat.le_trans hel (by decide)) SC hz SF hfm) hZ109 (hw _ (List.mem_of_getElem? (i := 48) rfl)) (hw _ (List.mem_of_getElem? (i := 3) rfl)) (by decide) (by decide)) c155 (lenOf pd_25 rfl) rfl (hb hby at_259) e154
      have N156 := Fr.app N154 N156'
      have c156 : Steps p.tables e below S0 (T156.setTop (mkF m 262 #[.val (.int i0), .val (.int i1), .val (.int i2), .val (.int i3), .val (.int i4), .val (.int (2 : Int32)), .val (.int k101), .val (.int k103), .val (.int k105), .val (.int k107), .val (.ref x109), .val (.ref b110), .val (.int (Int32.ofNat ((own_esc [k101, k103]) : List Int32).length)), .val (.ref r119)] [(.int (1 : Int32))])) := c156'
      have c157 : Steps p.tables e below S0 (T156.setTop (mkF m 270 #[.val (.int i0), .val (.int i1), .val (.int i2), .val (.int i3), .val (.int i4), .val (.int (2 : Int32)), .val (.int k101), .val (.int k103), .val (.int k105), .val (.int k107), .val (.ref x109), .val (.ref b110), .val (.int (Int32.ofNat ((own_esc [k101, k103]) : List Int32).length)), .val (.ref r119)] [(.int (1 : Int32))])) := c156.trans (by
        refine XS.ifNo X156.here hx rfl (hb hby at_262) rfl ((if0 _ _).trans (feq (by decide : ¬ ((1 : Int32) = (0 : Int32)))).1) ?_
        refine XS.iconst X156.here hx rfl (hb hby at_265) ?_
        refine XS.goto X156.here hx rfl (pc0 := 266) (pc' := 270) rfl (hb hby at_266) (by decide) (by decide) ?_
        exact Steps.refl _)
      refine ⟨T156, T109.vm, _, (some (.int (1 : Int32))), _, _, _, X156, by decide, by decide, (fun q => by cases q), N156, hS109, by rw [e156]; exact hk119, hZ109, by rw [e156]; exact CR119, ?_, fun fs hr => ?_⟩
      · skip
        exact rfl
      · exact c157.trans (retN X156 hx (t := .boolean) hret (by simp) (hb hby at_270) hr)
  · skip
    have eq159 : ((i0 &&& (2147483647 : Int32)) % (5 : Int32)) = (3 : Int32) := q3
    have c159 : Steps p.tables e below S0 (s₁.setTop (mkF m 6 #[.val (.int i0), .val (.int i1), .val (.int i2), .val (.int i3), .val (.int i4), .unset, .unset, .unset, .unset, .unset, .unset, .unset, .unset, .unset] [(.int (3 : Int32))])) := by have q := c2; rw [eq159] at q; exact q
    have c160 : Steps p.tables e below S0 (s₁.setTop (mkF m 9 #[.val (.int i0), .val (.int i1), .val (.int i2), .val (.int i3), .val (.int i4), .val (.int (3 : Int32)), .unset, .unset, .unset, .unset, .unset, .unset, .unset, .unset] [(.int i1)])) := c159.trans (by
      refine XS.istore X0.here hx rfl (hb hby at_6) rfl (l' := #[.val (.int i0), .val (.int i1), .val (.int i2), .val (.int i3), .val (.int i4), .val (.int (3 : Int32)), .unset, .unset, .unset, .unset, .unset, .unset, .unset, .unset]) rfl ?_
      refine XS.iloadN X0.here hx rfl (hb hby at_8) rfl ?_
      exact Steps.refl _)
    obtain ⟨v161, T161, L161, X161, ⟨N161', k161, hB161, rfl, e161⟩, c161'⟩ := own_stat X0 hx hml hZ hown (hw _ (List.mem_of_getElem? (i := 1) rfl)) (hw _ (List.mem_of_getElem? (i := 2) rfl)) (hw _ (List.mem_of_getElem? (i := 3) rfl)) (hw _ (List.mem_of_getElem? (i := 4) rfl)) (by decide) (kc := 0) (ks := 0) (h := h0) (W := 0) (argsL := [(.int i1)]) (rest := []) (own_pay (W := 0) (rmDraw l Z a0 hw i1 h0 O0) hZ (hw _ (List.mem_of_getElem? (i := 4) rfl)) (hw _ (List.mem_of_getElem? (i := 3) rfl)) (by decide) (by decide)) c160 (lenOf pd_17 rfl) rfl (hb hby at_9) e0
    have N161 := Fr.app N0 N161'
    have c161 : Steps p.tables e below S0 (T161.setTop (mkF m 12 #[.val (.int i0), .val (.int i1), .val (.int i2), .val (.int i3), .val (.int i4), .val (.int (3 : Int32)), .unset, .unset, .unset, .unset, .unset, .unset, .unset, .unset] [(.int k161)])) := c161'
    have c162 : Steps p.tables e below S0 (T161.setTop (mkF m 15 #[.val (.int i0), .val (.int i1), .val (.int i2), .val (.int i3), .val (.int i4), .val (.int (3 : Int32)), .val (.int k161), .unset, .unset, .unset, .unset, .unset, .unset, .unset] [(.int i2)])) := c161.trans (by
      refine XS.istore X161.here hx rfl (hb hby at_12) rfl (l' := #[.val (.int i0), .val (.int i1), .val (.int i2), .val (.int i3), .val (.int i4), .val (.int (3 : Int32)), .val (.int k161), .unset, .unset, .unset, .unset, .unset, .unset, .unset]) rfl ?_
      refine XS.iloadN X161.here hx rfl (hb hby at_14) rfl ?_
      exact Steps.refl _)
    obtain ⟨v163, T163, L163, X163, ⟨N163', k163, hB163, rfl, e163⟩, c163'⟩ := own_stat X161 hx hml hZ hown (hw _ (List.mem_of_getElem? (i := 1) rfl)) (hw _ (List.mem_of_getElem? (i := 2) rfl)) (hw _ (List.mem_of_getElem? (i := 3) rfl)) (hw _ (List.mem_of_getElem? (i := 4) rfl)) (by decide) (kc := 0) (ks := 0) (h := h0) (W := 0) (argsL := [(.int i2)]) (rest := []) (own_pay (W := 0) (rmDraw l Z a0 hw i2 h0 O0) hZ (hw _ (List.mem_of_getElem? (i := 4) rfl)) (hw _ (List.mem_of_getElem? (i := 3) rfl)) (by decide) (by decide)) c162 (lenOf pd_17 rfl) rfl (hb hby at_15) e161
    have N163 := Fr.app N161 N163'
    have c163 : Steps p.tables e below S0 (T163.setTop (mkF m 18 #[.val (.int i0), .val (.int i1), .val (.int i2), .val (.int i3), .val (.int i4), .val (.int (3 : Int32)), .val (.int k161), .unset, .unset, .unset, .unset, .unset, .unset, .unset] [(.int k163)])) := c163'
    have c164 : Steps p.tables e below S0 (T163.setTop (mkF m 21 #[.val (.int i0), .val (.int i1), .val (.int i2), .val (.int i3), .val (.int i4), .val (.int (3 : Int32)), .val (.int k161), .val (.int k163), .unset, .unset, .unset, .unset, .unset, .unset] [(.int i3)])) := c163.trans (by
      refine XS.istore X163.here hx rfl (hb hby at_18) rfl (l' := #[.val (.int i0), .val (.int i1), .val (.int i2), .val (.int i3), .val (.int i4), .val (.int (3 : Int32)), .val (.int k161), .val (.int k163), .unset, .unset, .unset, .unset, .unset, .unset]) rfl ?_
      refine XS.iloadN X163.here hx rfl (hb hby at_20) rfl ?_
      exact Steps.refl _)
    obtain ⟨v165, T165, L165, X165, ⟨N165', k165, hB165, rfl, e165⟩, c165'⟩ := own_stat X163 hx hml hZ hown (hw _ (List.mem_of_getElem? (i := 1) rfl)) (hw _ (List.mem_of_getElem? (i := 2) rfl)) (hw _ (List.mem_of_getElem? (i := 3) rfl)) (hw _ (List.mem_of_getElem? (i := 4) rfl)) (by decide) (kc := 0) (ks := 0) (h := h0) (W := 0) (argsL := [(.int i3)]) (rest := []) (own_pay (W := 0) (rmDraw l Z a0 hw i3 h0 O0) hZ (hw _ (List.mem_of_getElem? (i := 4) rfl)) (hw _ (List.mem_of_getElem? (i := 3) rfl)) (by decide) (by decide)) c164 (lenOf pd_17 rfl) rfl (hb hby at_21) e163
    have N165 := Fr.app N163 N165'
    have c165 : Steps p.tables e below S0 (T165.setTop (mkF m 24 #[.val (.int i0), .val (.int i1), .val (.int i2), .val (.int i3), .val (.int i4), .val (.int (3 : Int32)), .val (.int k161), .val (.int k163), .unset, .unset, .unset, .unset, .unset, .unset] [(.int k165)])) := c165'
    have c166 : Steps p.tables e below S0 (T165.setTop (mkF m 28 #[.val (.int i0), .val (.int i1), .val (.int i2), .val (.int i3), .val (.int i4), .val (.int (3 : Int32)), .val (.int k161), .val (.int k163), .val (.int k165), .unset, .unset, .unset, .unset, .unset] [(.int i4)])) := c165.trans (by
      refine XS.istore X165.here hx rfl (hb hby at_24) rfl (l' := #[.val (.int i0), .val (.int i1), .val (.int i2), .val (.int i3), .val (.int i4), .val (.int (3 : Int32)), .val (.int k161), .val (.int k163), .val (.int k165), .unset, .unset, .unset, .unset, .unset]) rfl ?_
      refine XS.iload X165.here hx rfl (hb hby at_26) rfl ?_
      exact Steps.refl _)
    obtain ⟨v167, T167, L167, X167, ⟨N167', k167, hB167, rfl, e167⟩, c167'⟩ := own_stat X165 hx hml hZ hown (hw _ (List.mem_of_getElem? (i := 1) rfl)) (hw _ (List.mem_of_getElem? (i := 2) rfl)) (hw _ (List.mem_of_getElem? (i := 3) rfl)) (hw _ (List.mem_of_getElem? (i := 4) rfl)) (by decide) (kc := 0) (ks := 0) (h := h0) (W := 0) (argsL := [(.int i4)]) (rest := []) (own_pay (W := 0) (rmDraw l Z a0 hw i4 h0 O0) hZ (hw _ (List.mem_of_getElem? (i := 4) rfl)) (hw _ (List.mem_of_getElem? (i := 3) rfl)) (by decide) (by decide)) c166 (lenOf pd_17 rfl) rfl (hb hby at_28) e165
    have N167 := Fr.app N165 N167'
    have c167 : Steps p.tables e below S0 (T167.setTop (mkF m 31 #[.val (.int i0), .val (.int i1), .val (.int i2), .val (.int i3), .val (.int i4), .val (.int (3 : Int32)), .val (.int k161), .val (.int k163), .val (.int k165), .unset, .unset, .unset, .unset, .unset] [(.int k167)])) := c167'
    have c168 : Steps p.tables e below S0 (T167.setTop (mkF m 43 #[.val (.int i0), .val (.int i1), .val (.int i2), .val (.int i3), .val (.int i4), .val (.int (3 : Int32)), .val (.int k161), .val (.int k163), .val (.int k165), .val (.int k167), .unset, .unset, .unset, .unset] [(.int k167), (.int k165), (.int k163), (.int k161), (.int (3 : Int32))])) := c167.trans (by
      refine XS.istore X167.here hx rfl (hb hby at_31) rfl (l' := #[.val (.int i0), .val (.int i1), .val (.int i2), .val (.int i3), .val (.int i4), .val (.int (3 : Int32)), .val (.int k161), .val (.int k163), .val (.int k165), .val (.int k167), .unset, .unset, .unset, .unset]) rfl ?_
      refine XS.iload X167.here hx rfl (hb hby at_33) rfl ?_
      refine XS.iload X167.here hx rfl (hb hby at_35) rfl ?_
      refine XS.iload X167.here hx rfl (hb hby at_37) rfl ?_
      refine XS.iload X167.here hx rfl (hb hby at_39) rfl ?_
      refine XS.iload X167.here hx rfl (hb hby at_41) rfl ?_
      exact Steps.refl _)
    obtain ⟨v169, T169, L169, X169, hS169, hZ169, hown169, R169, ⟨N169', x169, t169, kb169, rfl, K169, lo169, E169, V169, Cd169, Kb169⟩, c169'⟩ := own_wstat X167 hx hml hZ hown hS0 hk0 (hw _ (List.mem_of_getElem? (i := 5) rfl)) (hw _ (List.mem_of_getElem? (i := 6) rfl)) (hw _ (List.mem_of_getElem? (i := 3) rfl)) (hw _ (List.mem_of_getElem? (i := 7) rfl)) (by decide) (kc := 6) (ks := 40) (h := h0) (W := 0) (argsL := [(.int (3 : Int32)), (.int k161), (.int k163), (.int k165), (.int k167)]) (rest := []) (own_wpay (W := 0) (rmMk3 l Z a0 hw hEL k161 k163 k165 k167 z fm h0 O0 hB161 hB163 hB165 hB167 SC hz SF hfm) hZ (hw _ (List.mem_of_getElem? (i := 7) rfl)) (hw _ (List.mem_of_getElem? (i := 3) rfl)) (by decide) (by decide) hEL CR0.1 all0) c168 (lenOf pd_23 rfl) rfl (hb hby at_43) e167
    have N169 := Fr.app N167 N169'
    have CR169 := CR0.trans R169
    have c169 : Steps p.tables e below S0 (T169.setTop (mkF m 46 #[.val (.int i0), .val (.int i1), .val (.int i2), .val (.int i3), .val (.int i4), .val (.int (3 : Int32)), .val (.int k161), .val (.int k163), .val (.int k165), .val (.int k167), .unset, .unset, .unset, .unset] [(.ref x169)])) := c169'
    obtain ⟨T170, h170, k170, X170, e170, E170, A170, st170⟩ := newP X169 hx hZ169 (hw _ (List.mem_of_getElem? (i := 11) rfl)) rfl (g := (mkF m 50 #[.val (.int i0), .val (.int i1), .val (.int i2), .val (.int i3), .val (.int i4), .val (.int (3 : Int32)), .val (.int k161), .val (.int k163), .val (.int k165), .val (.int k167), .val (.ref x169), .unset, .unset, .unset] [(.int (8 : Int32))])) rfl (hb hby at_50) rfl (by decide) (cap := 8) (by decide) (by decide) (by decide) (by decide)
    obtain ⟨b170, g170⟩ : ∃ z, z = T169.heap.size := ⟨_, rfl⟩
    rw [← g170] at A170 st170
    have lo170 : T169.heap.size ≤ b170 := Nat.le_of_eq g170.symm
    have ge170 : Z.heap.size ≤ b170 := Nat.le_trans (O0.keep K169 all0).2.1 lo170
    have R170 := CHr.ext (EL := EL) E170 CR169.1
    have sf170 := Safe.ext E170 CR169.1 (Safe.new lo170)
    have CR170 := CR169.trans R170
    have hk170 := Nat.le_trans (Nat.le_refl _) R170.2.1
    have V170 := Arv.new A170 (by decide)
    have V170a : Arv Z h170 b170 k170 .char (8 : Int32) [(.int (0 : Int32)), (.int (0 : Int32)), (.int (0 : Int32)), (.int (0 : Int32)), (.int (0 : Int32)), (.int (0 : Int32)), (.int (0 : Int32)), (.int (0 : Int32))] (.int (0 : Int32)) := V170.pad (pad_rep [] (.int (0 : Int32)) 8)
    have c171 : Steps p.tables e below S0 (T170.setTop (mkF m 68 #[.val (.int i0), .val (.int i1), .val (.int i2), .val (.int i3), .val (.int i4), .val (.int (3 : Int32)), .val (.int k161), .val (.int k163), .val (.int k165), .val (.int k167), .val (.ref x169), .val (.ref b170), .val (.int (0 : Int32)), .unset] [(.int k161), (.int (0 : Int32)), (.ref b170)])) := c169.trans (by
      refine XS.astore X169.here hx rfl (hb hby at_46) rfl rfl (l' := #[.val (.int i0), .val (.int i1), .val (.int i2), .val (.int i3), .val (.int i4), .val (.int (3 : Int32)), .val (.int k161), .val (.int k163), .val (.int k165), .val (.int k167), .val (.ref x169), .unset, .unset, .unset]) rfl ?_
      refine XS.bipush X169.here hx rfl (hb hby at_48) ?_
      refine st170 _ ?_
      refine XS.astore X170.here hx rfl (hb hby at_52) rfl rfl (l' := #[.val (.int i0), .val (.int i1), .val (.int i2), .val (.int i3), .val (.int i4), .val (.int (3 : Int32)), .val (.int k161), .val (.int k163), .val (.int k165), .val (.int k167), .val (.ref x169), .val (.ref b170), .unset, .unset]) rfl ?_
      refine XS.iconst X170.here hx rfl (hb hby at_54) ?_
      refine XS.istore X170.here hx rfl (hb hby at_55) rfl (l' := #[.val (.int i0), .val (.int i1), .val (.int i2), .val (.int i3), .val (.int i4), .val (.int (3 : Int32)), .val (.int k161), .val (.int k163), .val (.int k165), .val (.int k167), .val (.ref x169), .val (.ref b170), .val (.int (0 : Int32)), .unset]) rfl ?_
      refine XS.iload X170.here hx rfl (hb hby at_57) rfl ?_
      refine XS.ifNo X170.here hx rfl (hb hby at_59) rfl ((if0 _ _).trans (tlt (by decide : (0 : Int32) < (3 : Int32))).2.2.2) ?_
      refine XS.aload X170.here hx rfl (hb hby at_62) rfl rfl ?_
      show Steps p.tables e below (T170.setTop (mkF m 64 #[.val (.int i0), .val (.int i1), .val (.int i2), .val (.int i3), .val (.int i4), .val (.int (3 : Int32)), .val (.int k161), .val (.int k163), .val (.int k165), .val (.int k167), .val (.ref x169), .val (.ref b170), .val (.int (0 : Int32)), .unset] [(.ref b170)])) _
      refine XS.iload X170.here hx rfl (hb hby at_64) rfl ?_
      refine XS.iload X170.here hx rfl (hb hby at_66) rfl ?_
      exact Steps.refl _)
    obtain ⟨v172, T172, L172, X172, ⟨N172', rfl, K172, Vo172⟩, c172'⟩ := own_stat X170 hx hml hZ169 hown169 (hw _ (List.mem_of_getElem? (i := 59) rfl)) (hw _ (List.mem_of_getElem? (i := 60) rfl)) (hw _ (List.mem_of_getElem? (i := 3) rfl)) (hw _ (List.mem_of_getElem? (i := 61) rfl)) (by decide) (kc := 0) (ks := 0) (h := h170) (W := 0) (argsL := [(.ref b170), (.int (0 : Int32)), (.int k161)]) (rest := []) (own_pay (R := room_1) (s := (s.setVm T169.vm)) (W := 0) (rmPut l Z a0 hw [] b170 k170 k161 h170 ((O0.keep K169 all0).ext E170) V170 hB161 (Nat.le_trans (Nat.add_le_add_right (Nat.le_refl 0) 2) (by decide)) ge170) hZ169 (hw _ (List.mem_of_getElem? (i := 61) rfl)) (hw _ (List.mem_of_getElem? (i := 3) rfl)) (by decide) (by decide)) c171 (lenOf pd_26 rfl) rfl (hb hby at_68) e170
    have N172 := Fr.app N169 N172'
    have R172 := CHr.keep K172 (sfS sf170 sf0) CR170.1
    have CR172 := CR170.trans R172
    have hk172 := Nat.le_trans hk170 R172.2.1
    have c172 : Steps p.tables e below S0 (T172.setTop (mkF m 71 #[.val (.int i0), .val (.int i1), .val (.int i2), .val (.int i3), .val (.int i4), .val (.int (3 : Int32)), .val (.int k161), .val (.int k163), .val (.int k165), .val (.int k167), .val (.ref x169), .val (.ref b170), .val (.int (0 : Int32)), .unset] [(.int (Int32.ofNat ([] ++ own_e1 k161).length))])) := c172'
    have c173 : Steps p.tables e below S0 (T172.setTop (mkF m 85 #[.val (.int i0), .val (.int i1), .val (.int i2), .val (.int i3), .val (.int i4), .val (.int (3 : Int32)), .val (.int k161), .val (.int k163), .val (.int k165), .val (.int k167), .val (.ref x169), .val (.ref b170), .val (.int (Int32.ofNat ([] ++ own_e1 k161).length)), .unset] [(.int k163), (.int (Int32.ofNat ([] ++ own_e1 k161).length)), (.ref b170)])) := c172.trans (by
      refine XS.istore X172.here hx rfl (hb hby at_71) rfl (l' := #[.val (.int i0), .val (.int i1), .val (.int i2), .val (.int i3), .val (.int i4), .val (.int (3 : Int32)), .val (.int k161), .val (.int k163), .val (.int k165), .val (.int k167), .val (.ref x169), .val (.ref b170), .val (.int (Int32.ofNat ([] ++ own_e1 k161).length)), .unset]) rfl ?_
      refine XS.iload X172.here hx rfl (hb hby at_73) rfl ?_
      refine XS.iconst X172.here hx rfl (hb hby at_75) ?_
      refine XS.icmpNo X172.here hx rfl (hb hby at_76) rfl (tlt (by decide : (1 : Int32) < (3 : Int32))).2.2.2 ?_
      refine XS.aload X172.here hx rfl (hb hby at_79) rfl rfl ?_
      refine XS.iload X172.here hx rfl (hb hby at_81) rfl ?_
      refine XS.iload X172.here hx rfl (hb hby at_83) rfl ?_
      exact Steps.refl _)
    obtain ⟨v174, T174, L174, X174, ⟨N174', rfl, K174, Vo174⟩, c174'⟩ := own_stat X172 hx hml hZ169 hown169 (hw _ (List.mem_of_getElem? (i := 59) rfl)) (hw _ (List.mem_of_getElem? (i := 60) rfl)) (hw _ (List.mem_of_getElem? (i := 3) rfl)) (hw _ (List.mem_of_getElem? (i := 61) rfl)) (by decide) (kc := 0) (ks := 0) (h := T172.heap) (W := 0) (argsL := [(.ref b170), (.int (Int32.ofNat ([] ++ own_e1 k161).length)), (.int k163)]) (rest := []) (own_pay (R := room_1) (s := (s.setVm T169.vm)) (W := 0) (rmPut l Z a0 hw ([] ++ own_e1 k161) b170 k170 k163 T172.heap (((O0.keep K169 all0).ext E170).keep K172 (allS ge170 all0)) Vo172 hB163 (Nat.le_trans (Nat.add_le_add_right (own_putL (os := []) (k := k161) (j := 0) (Nat.le_refl 0)) 2) (by decide)) ge170) hZ169 (hw _ (List.mem_of_getElem? (i := 61) rfl)) (hw _ (List.mem_of_getElem? (i := 3) rfl)) (by decide) (by decide)) c173 (lenOf pd_26 rfl) rfl (hb hby at_85) rfl
    have N174 := Fr.app N172 N174'
    have R174 := CHr.keep K174 (sfS (R172.safe V170.lt sf170) sf0) CR172.1
    have CR174 := CR172.trans R174
    have hk174 := Nat.le_trans hk172 R174.2.1
    have c174 : Steps p.tables e below S0 (T174.setTop (mkF m 88 #[.val (.int i0), .val (.int i1), .val (.int i2), .val (.int i3), .val (.int i4), .val (.int (3 : Int32)), .val (.int k161), .val (.int k163), .val (.int k165), .val (.int k167), .val (.ref x169), .val (.ref b170), .val (.int (Int32.ofNat ([] ++ own_e1 k161).length)), .unset] [(.int (Int32.ofNat (([] ++ own_e1 k161) ++ own_e1 k163).length))])) := c174'
    have c175 : Steps p.tables e below S0 (T174.setTop (mkF m 102 #[.val (.int i0), .val (.int i1), .val (.int i2), .val (.int i3), .val (.int i4), .val (.int (3 : Int32)), .val (.int k161), .val (.int k163), .val (.int k165), .val (.int k167), .val (.ref x169), .val (.ref b170), .val (.int (Int32.ofNat (([] ++ own_e1 k161) ++ own_e1 k163).length)), .unset] [(.int k165), (.int (Int32.ofNat (([] ++ own_e1 k161) ++ own_e1 k163).length)), (.ref b170)])) := c174.trans (by
      refine XS.istore X174.here hx rfl (hb hby at_88) rfl (l' := #[.val (.int i0), .val (.int i1), .val (.int i2), .val (.int i3), .val (.int i4), .val (.int (3 : Int32)), .val (.int k161), .val (.int k163), .val (.int k165), .val (.int k167), .val (.ref x169), .val (.ref b170), .val (.int (Int32.ofNat (([] ++ own_e1 k161) ++ own_e1 k163).length)), .unset]) rfl ?_
      refine XS.iload X174.here hx rfl (hb hby at_90) rfl ?_
      refine XS.iconst X174.here hx rfl (hb hby at_92) ?_
      refine XS.icmpNo X174.here hx rfl (hb hby at_93) rfl (tlt (by decide : (2 : Int32) < (3 : Int32))).2.2.2 ?_
      refine XS.aload X174.here hx rfl (hb hby at_96) rfl rfl ?_
      refine XS.iload X174.here hx rfl (hb hby at_98) rfl ?_
      refine XS.iload X174.here hx rfl (hb hby at_100) rfl ?_
      exact Steps.refl _)
    obtain ⟨v176, T176, L176, X176, ⟨N176', rfl, K176, Vo176⟩, c176'⟩ := own_stat X174 hx hml hZ169 hown169 (hw _ (List.mem_of_getElem? (i := 59) rfl)) (hw _ (List.mem_of_getElem? (i := 60) rfl)) (hw _ (List.mem_of_getElem? (i := 3) rfl)) (hw _ (List.mem_of_getElem? (i := 61) rfl)) (by decide) (kc := 0) (ks := 0) (h := T174.heap) (W := 0) (argsL := [(.ref b170), (.int (Int32.ofNat (([] ++ own_e1 k161) ++ own_e1 k163).length)), (.int k165)]) (rest := []) (own_pay (R := room_1) (s := (s.setVm T169.vm)) (W := 0) (rmPut l Z a0 hw (([] ++ own_e1 k161) ++ own_e1 k163) b170 k170 k165 T174.heap ((((O0.keep K169 all0).ext E170).keep K172 (allS ge170 all0)).keep K174 (allS ge170 all0)) Vo174 hB165 (Nat.le_trans (Nat.add_le_add_right (own_putL (os := ([] ++ own_e1 k161)) (k := k163) (j := 2) (own_putL (os := []) (k := k161) (j := 0) (Nat.le_refl 0))) 2) (by decide)) ge170) hZ169 (hw _ (List.mem_of_getElem? (i := 61) rfl)) (hw _ (List.mem_of_getElem? (i := 3) rfl)) (by decide) (by decide)) c175 (lenOf pd_26 rfl) rfl (hb hby at_102) rfl
    have N176 := Fr.app N174 N176'
    have R176 := CHr.keep K176 (sfS ((R172.trans R174).safe V170.lt sf170) sf0) CR174.1
    have CR176 := CR174.trans R176
    have hk176 := Nat.le_trans hk174 R176.2.1
    have c176 : Steps p.tables e below S0 (T176.setTop (mkF m 105 #[.val (.int i0), .val (.int i1), .val (.int i2), .val (.int i3), .val (.int i4), .val (.int (3 : Int32)), .val (.int k161), .val (.int k163), .val (.int k165), .val (.int k167), .val (.ref x169), .val (.ref b170), .val (.int (Int32.ofNat (([] ++ own_e1 k161) ++ own_e1 k163).length)), .unset] [(.int (Int32.ofNat ((([] ++ own_e1 k161) ++ own_e1 k163) ++ own_e1 k165).length))])) := c176'
    have c177 : Steps p.tables e below S0 (T176.setTop (mkF m 124 #[.val (.int i0), .val (.int i1), .val (.int i2), .val (.int i3), .val (.int i4), .val (.int (3 : Int32)), .val (.int k161), .val (.int k163), .val (.int k165), .val (.int k167), .val (.ref x169), .val (.ref b170), .val (.int (Int32.ofNat ((([] ++ own_e1 k161) ++ own_e1 k163) ++ own_e1 k165).length)), .unset] [])) := c176.trans (by
      refine XS.istore X176.here hx rfl (hb hby at_105) rfl (l' := #[.val (.int i0), .val (.int i1), .val (.int i2), .val (.int i3), .val (.int i4), .val (.int (3 : Int32)), .val (.int k161), .val (.int k163), .val (.int k165), .val (.int k167), .val (.ref x169), .val (.ref b170), .val (.int (Int32.ofNat ((([] ++ own_e1 k161) ++ own_e1 k163) ++ own_e1 k165).length)), .unset]) rfl ?_
      refine XS.iload X176.here hx rfl (hb hby at_107) rfl ?_
      refine XS.iconst X176.here hx rfl (hb hby at_109) ?_
      refine XS.icmpYes X176.here hx rfl (pc0 := 110) (pc' := 124) rfl (hb hby at_110) rfl (flt (by decide : ¬ ((3 : Int32) < (3 : Int32)))).2.2.2 (by decide) (by decide) ?_
      exact Steps.refl _)
    have hes : ((([] ++ own_e1 k161) ++ own_e1 k163) ++ own_e1 k165) = (own_esc [k161, k163, k165]) := by simp [own_esc]
    have Vs178 : Arv Z T176.heap b170 k170 .char (8 : Int32) ((own_esc [k161, k163, k165]).map Value.int) (.int (0 : Int32)) := by rw [← hes]; exact Vo176
    have hel : (own_esc [k161, k163, k165]).length ≤ 6 := own_escL [k161, k163, k165]
    have hBs : ∀ c ∈ [k161, k163, k165], own_B c := (own_cons hB161 (own_cons hB163 (own_cons hB165 own_nil)))
    have eq179 : (Int32.ofNat ((([] ++ own_e1 k161) ++ own_e1 k163) ++ own_e1 k165).length) = (Int32.ofNat ((own_esc [k161, k163, k165]) : List Int32).length) := by rw [hes]
    have c179 : Steps p.tables e below S0 (T176.setTop (mkF m 124 #[.val (.int i0), .val (.int i1), .val (.int i2), .val (.int i3), .val (.int i4), .val (.int (3 : Int32)), .val (.int k161), .val (.int k163), .val (.int k165), .val (.int k167), .val (.ref x169), .val (.ref b170), .val (.int (Int32.ofNat ((own_esc [k161, k163, k165]) : List Int32).length)), .unset] [])) := by have q := c177; rw [eq179] at q; exact q
    have c180 : Steps p.tables e below S0 (T176.setTop (mkF m 126 #[.val (.int i0), .val (.int i1), .val (.int i2), .val (.int i3), .val (.int i4), .val (.int (3 : Int32)), .val (.int k161), .val (.int k163), .val (.int k165), .val (.int k167), .val (.ref x169), .val (.ref b170), .val (.int (Int32.ofNat ((own_esc [k161, k163, k165]) : List Int32).length)), .unset] [(.ref x169)])) := c179.trans (by
      refine XS.aload X176.here hx rfl (hb hby at_124) rfl rfl ?_
      exact Steps.refl _)
    obtain ⟨v181, T181, L181, X181, ⟨N181', r181, t181, kb181, rfl, K181, E181, V181, Cd181, Kb181, hd181⟩, c181'⟩ := own_stat X176 hx hml hZ169 hown169 (hw _ (List.mem_of_getElem? (i := 30) rfl)) (hw _ (List.mem_of_getElem? (i := 31) rfl)) (hw _ (List.mem_of_getElem? (i := 32) rfl)) (hw _ (List.mem_of_getElem? (i := 33) rfl)) (by decide) (kc := 12) (ks := 120) (h := T176.heap) (W := 0) (argsL := [(.ref x169)]) (rest := []) (own_pay (W := 0) (rmEsc l Z a0 hw [k161, k163, k165] x169 t169 kb169 z fm fo T176.heap (((((O0.keep K169 all0).ext E170).keep K172 (allS ge170 all0)).keep K174 (allS ge170 all0)).keep K176 (allS ge170 all0)) ((((E169.ext E170).keep K172).keep K174).keep K176) ((((V169.ext E170).keep K172 (ninS (Nat.ne_of_lt (Nat.lt_of_lt_of_le E169.lt lo170)) nin0)).keep K174 (ninS (Nat.ne_of_lt (Nat.lt_of_lt_of_le E169.lt lo170)) nin0)).keep K176 (ninS (Nat.ne_of_lt (Nat.lt_of_lt_of_le E169.lt lo170)) nin0)) ((((Cd169.ext E170).keep K172 (ninS (Nat.ne_of_lt (Nat.lt_of_lt_of_le E169.lt lo170)) nin0)).keep K174 (ninS (Nat.ne_of_lt (Nat.lt_of_lt_of_le E169.lt lo170)) nin0)).keep K176 (ninS (Nat.ne_of_lt (Nat.lt_of_lt_of_le E169.lt lo170)) nin0)) ((((Kb169.ext E170).keep K172 (ninS (Nat.ne_of_lt (Nat.lt_of_lt_of_le Kb169.lt lo170)) nin0)).keep K174 (ninS (Nat.ne_of_lt (Nat.lt_of_lt_of_le Kb169.lt lo170)) nin0)).keep K176 (ninS (Nat.ne_of_lt (Nat.lt_of_lt_of_le Kb169.lt lo170)) nin0)) (by show 3 ≤ 4; decide) hBs SC hz SF hfm SI hfo) hZ169 (hw _ (List.mem_of_getElem? (i := 33) rfl)) (hw _ (List.mem_of_getElem? (i := 32) rfl)) (by decide) (by decide)) c180 (lenOf pd_24 rfl) rfl (hb hby at_126) rfl
    have N181 := Fr.app N176 N181'
    have R181 := CHr.keep K181 sf0 CR176.1
    have CR181 := CR176.trans R181
    have hk181 := Nat.le_trans hk176 R181.2.1
    have c181 : Steps p.tables e below S0 (T181.setTop (mkF m 129 #[.val (.int i0), .val (.int i1), .val (.int i2), .val (.int i3), .val (.int i4), .val (.int (3 : Int32)), .val (.int k161), .val (.int k163), .val (.int k165), .val (.int k167), .val (.ref x169), .val (.ref b170), .val (.int (Int32.ofNat ((own_esc [k161, k163, k165]) : List Int32).length)), .unset] [(.ref r181)])) := c181'
    have c182 : Steps p.tables e below S0 (T181.setTop (mkF m 133 #[.val (.int i0), .val (.int i1), .val (.int i2), .val (.int i3), .val (.int i4), .val (.int (3 : Int32)), .val (.int k161), .val (.int k163), .val (.int k165), .val (.int k167), .val (.ref x169), .val (.ref b170), .val (.int (Int32.ofNat ((own_esc [k161, k163, k165]) : List Int32).length)), .val (.ref r181)] [(.ref r181)])) := c181.trans (by
      refine XS.astore X181.here hx rfl (hb hby at_129) rfl rfl (l' := #[.val (.int i0), .val (.int i1), .val (.int i2), .val (.int i3), .val (.int i4), .val (.int (3 : Int32)), .val (.int k161), .val (.int k163), .val (.int k165), .val (.int k167), .val (.ref x169), .val (.ref b170), .val (.int (Int32.ofNat ((own_esc [k161, k163, k165]) : List Int32).length)), .val (.ref r181)]) rfl ?_
      refine XS.aload X181.here hx rfl (hb hby at_131) rfl rfl ?_
      exact Steps.refl _)
    obtain ⟨v183, T183, L183, X183, ⟨rfl, rfl, e183⟩, c183'⟩ := own_virt X181 hx hml hZ169 hown169 (hw _ (List.mem_of_getElem? (i := 45) rfl)) (hw _ (List.mem_of_getElem? (i := 35) rfl)) (hw _ (List.mem_of_getElem? (i := 37) rfl)) (hw _ (List.mem_of_getElem? (i := 36) rfl)) (hw _ (List.mem_of_getElem? (i := 37) rfl)) (by decide) (Q := fun v h' L => v = some (.int (Int32.ofNat ((own_esc [k161, k163, k165]) : List Int32).length)) ∧ L = [] ∧ h' = T181.heap) (kc := 0) (ks := 0) (h := T181.heap) (W := 0) (b := r181) (argsL := []) (rest := []) (StrChars.Road.lenW (s := (s.setVm T169.vm)) (R := room_1) (W := 0) hZ169 (own_wl hw) (kI := 4) (hw _ (List.mem_of_getElem? (i := 9) rfl)) (cs := (own_esc [k161, k163, k165])) E181 V181 Cd181 Kb181 (StrChars.Road.codOf (n := ((own_esc [k161, k163, k165]) : List Int32).length) rfl (fun c hc => ((own_escB hBs) c hc).rng.2)) (fun c hc => ((own_escB hBs) c hc).rng2) (SC.ext ((((((O0.keep K169 all0).ext E170).keep K172 (allS ge170 all0)).keep K174 (allS ge170 all0)).keep K176 (allS ge170 all0)).keep K181 all0).2) hz (Nat.le_trans hel (by decide)) (by decide) (by decide)) E181 c182 (lenOf pd_9 rfl) rfl (hb hby at_133) rfl
    have N183 := Fr.app N181 (Fr.nil _)
    have c183 : Steps p.tables e below S0 (T183.setTop (mkF m 136 #[.val (.int i0), .val (.int i1), .val (.int i2), .val (.int i3), .val (.int i4), .val (.int (3 : Int32)), .val (.int k161), .val (.int k163), .val (.int k165), .val (.int k167), .val (.ref x169), .val (.ref b170), .val (.int (Int32.ofNat ((own_esc [k161, k163, k165]) : List Int32).length)), .val (.ref r181)] [(.int (Int32.ofNat ((own_esc [k161, k163, k165]) : List Int32).length))])) := c183'
    have c184 : Steps p.tables e below S0 (T183.setTop (mkF m 147 #[.val (.int i0), .val (.int i1), .val (.int i2), .val (.int i3), .val (.int i4), .val (.int (3 : Int32)), .val (.int k161), .val (.int k163), .val (.int k165), .val (.int k167), .val (.ref x169), .val (.ref b170), .val (.int (Int32.ofNat ((own_esc [k161, k163, k165]) : List Int32).length)), .val (.ref r181)] [(.int (3 : Int32)), (.int (Int32.ofNat ((own_esc [k161, k163, k165]) : List Int32).length))])) := c183.trans (by
      refine XS.iload X183.here hx rfl (hb hby at_136) rfl ?_
      refine XS.icmpYes X183.here hx rfl (pc0 := 138) (pc' := 143) rfl (hb hby at_138) rfl (teq (rfl : (Int32.ofNat ((own_esc [k161, k163, k165]) : List Int32).length) = (Int32.ofNat ((own_esc [k161, k163, k165]) : List Int32).length))).1 (by decide) (by decide) ?_
      refine XS.iload X183.here hx rfl (hb hby at_143) rfl ?_
      refine XS.iload X183.here hx rfl (hb hby at_145) rfl ?_
      exact Steps.refl _)
    rcases hd181 with ⟨hr181, he181⟩ | hg181
    · skip
      have c185 : Steps p.tables e below S0 (T183.setTop (mkF m 166 #[.val (.int i0), .val (.int i1), .val (.int i2), .val (.int i3), .val (.int i4), .val (.int (3 : Int32)), .val (.int k161), .val (.int k163), .val (.int k165), .val (.int k167), .val (.ref x169), .val (.ref b170), .val (.int (Int32.ofNat ((own_esc [k161, k163, k165]) : List Int32).length)), .val (.ref r181)] [(.int (0 : Int32)), (.int (Int32.ofNat ((own_esc [k161, k163, k165]) : List Int32).length)), (.ref b170), (.ref r181)])) := c184.trans (by
        refine XS.icmpNo X183.here hx rfl (hb hby at_147) rfl (teq (by rw [he181]; rfl)).2 ?_
        refine XS.aload X183.here hx rfl (hb hby at_150) rfl rfl ?_
        refine XS.aload X183.here hx rfl (hb hby at_152) rfl rfl ?_
        refine Jvm.RoadKit.acmp (g := (mkF m 154 #[.val (.int i0), .val (.int i1), .val (.int i2), .val (.int i3), .val (.int i4), .val (.int (3 : Int32)), .val (.int k161), .val (.int k163), .val (.int k165), .val (.int k167), .val (.ref x169), .val (.ref b170), .val (.int (Int32.ofNat ((own_esc [k161, k163, k165]) : List Int32).length)), .val (.ref r181)] [(.ref x169), (.ref r181)])) X183 hx rfl rfl rfl (pc0 := 154) (pc' := 159) (same := true) rfl (hb hby at_154) rfl (decide_eq_true (congrArg Value.ref hr181)) (by decide) (by decide) ?_
        refine XS.aload X183.here hx rfl (hb hby at_159) rfl rfl ?_
        refine XS.aload X183.here hx rfl (hb hby at_161) rfl rfl ?_
        refine XS.iload X183.here hx rfl (hb hby at_163) rfl ?_
        refine XS.iconst X183.here hx rfl (hb hby at_165) ?_
        exact Steps.refl _)
      obtain ⟨v186, T186, L186, X186, ⟨N186', rfl, e186⟩, c186'⟩ := own_stat X183 hx hml hZ169 hown169 (hw _ (List.mem_of_getElem? (i := 46) rfl)) (hw _ (List.mem_of_getElem? (i := 47) rfl)) (hw _ (List.mem_of_getElem? (i := 3) rfl)) (hw _ (List.mem_of_getElem? (i := 48) rfl)) (by decide) (kc := 0) (ks := 0) (h := T181.heap) (W := 0) (argsL := [(.ref r181), (.ref b170), (.int (Int32.ofNat ((own_esc [k161, k163, k165]) : List Int32).length)), (.int (0 : Int32))]) (rest := []) (own_pay (W := 0) (rmAt l Z a0 hw (own_esc [k161, k163, k165]) r181 t181 kb181 b170 k170 0 z fm T181.heap ((((((O0.keep K169 all0).ext E170).keep K172 (allS ge170 all0)).keep K174 (allS ge170 all0)).keep K176 (allS ge170 all0)).keep K181 all0) E181 V181 Cd181 Kb181 (Vs178.keep K181 nin0) (own_escB hBs) (by decide) (Nat.le_trans hel (by decide)) SC hz SF hfm) hZ169 (hw _ (List.mem_of_getElem? (i := 48) rfl)) (hw _ (List.mem_of_getElem? (i := 3) rfl)) (by decide) (by decide)) c185 (lenOf pd_25 rfl) rfl (hb hby at_166) e183
      have N186 := Fr.app N183 N186'
      have c186 : Steps p.tables e below S0 (T186.setTop (mkF m 169 #[.val (.int i0), .val (.int i1), .val (.int i2), .val (.int i3), .val (.int i4), .val (.int (3 : Int32)), .val (.int k161), .val (.int k163), .val (.int k165), .val (.int k167), .val (.ref x169), .val (.ref b170), .val (.int (Int32.ofNat ((own_esc [k161, k163, k165]) : List Int32).length)), .val (.ref r181)] [(.int (1 : Int32))])) := c186'
      have c187 : Steps p.tables e below S0 (T186.setTop (mkF m 179 #[.val (.int i0), .val (.int i1), .val (.int i2), .val (.int i3), .val (.int i4), .val (.int (3 : Int32)), .val (.int k161), .val (.int k163), .val (.int k165), .val (.int k167), .val (.ref x169), .val (.ref b170), .val (.int (Int32.ofNat ((own_esc [k161, k163, k165]) : List Int32).length)), .val (.ref r181)] [(.int (1 : Int32)), (.int (Int32.ofNat ((own_esc [k161, k163, k165]) : List Int32).length)), (.ref b170), (.ref r181)])) := c186.trans (by
        refine XS.ifNo X186.here hx rfl (hb hby at_169) rfl ((if0 _ _).trans (feq (by decide : ¬ ((1 : Int32) = (0 : Int32)))).1) ?_
        refine XS.aload X186.here hx rfl (hb hby at_172) rfl rfl ?_
        refine XS.aload X186.here hx rfl (hb hby at_174) rfl rfl ?_
        refine XS.iload X186.here hx rfl (hb hby at_176) rfl ?_
        refine XS.iconst X186.here hx rfl (hb hby at_178) ?_
        exact Steps.refl _)
      obtain ⟨v188, T188, L188, X188, ⟨N188', rfl, e188⟩, c188'⟩ := own_stat X186 hx hml hZ169 hown169 (hw _ (List.mem_of_getElem? (i := 46) rfl)) (hw _ (List.mem_of_getElem? (i := 47) rfl)) (hw _ (List.mem_of_getElem? (i := 3) rfl)) (hw _ (List.mem_of_getElem? (i := 48) rfl)) (by decide) (kc := 0) (ks := 0) (h := T181.heap) (W := 0) (argsL := [(.ref r181), (.ref b170), (.int (Int32.ofNat ((own_esc [k161, k163, k165]) : List Int32).length)), (.int (1 : Int32))]) (rest := []) (own_pay (W := 0) (rmAt l Z a0 hw (own_esc [k161, k163, k165]) r181 t181 kb181 b170 k170 1 z fm T181.heap ((((((O0.keep K169 all0).ext E170).keep K172 (allS ge170 all0)).keep K174 (allS ge170 all0)).keep K176 (allS ge170 all0)).keep K181 all0) E181 V181 Cd181 Kb181 (Vs178.keep K181 nin0) (own_escB hBs) (by decide) (Nat.le_trans hel (by decide)) SC hz SF hfm) hZ169 (hw _ (List.mem_of_getElem? (i := 48) rfl)) (hw _ (List.mem_of_getElem? (i := 3) rfl)) (by decide) (by decide)) c187 (lenOf pd_25 rfl) rfl (hb hby at_179) e186
      have N188 := Fr.app N186 N188'
      have c188 : Steps p.tables e below S0 (T188.setTop (mkF m 182 #[.val (.int i0), .val (.int i1), .val (.int i2), .val (.int i3), .val (.int i4), .val (.int (3 : Int32)), .val (.int k161), .val (.int k163), .val (.int k165), .val (.int k167), .val (.ref x169), .val (.ref b170), .val (.int (Int32.ofNat ((own_esc [k161, k163, k165]) : List Int32).length)), .val (.ref r181)] [(.int (1 : Int32))])) := c188'
      have c189 : Steps p.tables e below S0 (T188.setTop (mkF m 192 #[.val (.int i0), .val (.int i1), .val (.int i2), .val (.int i3), .val (.int i4), .val (.int (3 : Int32)), .val (.int k161), .val (.int k163), .val (.int k165), .val (.int k167), .val (.ref x169), .val (.ref b170), .val (.int (Int32.ofNat ((own_esc [k161, k163, k165]) : List Int32).length)), .val (.ref r181)] [(.int (2 : Int32)), (.int (Int32.ofNat ((own_esc [k161, k163, k165]) : List Int32).length)), (.ref b170), (.ref r181)])) := c188.trans (by
        refine XS.ifNo X188.here hx rfl (hb hby at_182) rfl ((if0 _ _).trans (feq (by decide : ¬ ((1 : Int32) = (0 : Int32)))).1) ?_
        refine XS.aload X188.here hx rfl (hb hby at_185) rfl rfl ?_
        refine XS.aload X188.here hx rfl (hb hby at_187) rfl rfl ?_
        refine XS.iload X188.here hx rfl (hb hby at_189) rfl ?_
        refine XS.iconst X188.here hx rfl (hb hby at_191) ?_
        exact Steps.refl _)
      obtain ⟨v190, T190, L190, X190, ⟨N190', rfl, e190⟩, c190'⟩ := own_stat X188 hx hml hZ169 hown169 (hw _ (List.mem_of_getElem? (i := 46) rfl)) (hw _ (List.mem_of_getElem? (i := 47) rfl)) (hw _ (List.mem_of_getElem? (i := 3) rfl)) (hw _ (List.mem_of_getElem? (i := 48) rfl)) (by decide) (kc := 0) (ks := 0) (h := T181.heap) (W := 0) (argsL := [(.ref r181), (.ref b170), (.int (Int32.ofNat ((own_esc [k161, k163, k165]) : List Int32).length)), (.int (2 : Int32))]) (rest := []) (own_pay (W := 0) (rmAt l Z a0 hw (own_esc [k161, k163, k165]) r181 t181 kb181 b170 k170 2 z fm T181.heap ((((((O0.keep K169 all0).ext E170).keep K172 (allS ge170 all0)).keep K174 (allS ge170 all0)).keep K176 (allS ge170 all0)).keep K181 all0) E181 V181 Cd181 Kb181 (Vs178.keep K181 nin0) (own_escB hBs) (by decide) (Nat.le_trans hel (by decide)) SC hz SF hfm) hZ169 (hw _ (List.mem_of_getElem? (i := 48) rfl)) (hw _ (List.mem_of_getElem? (i := 3) rfl)) (by decide) (by decide)) c189 (lenOf pd_25 rfl) rfl (hb hby at_192) e188
      have N190 := Fr.app N188 N190'
      have c190 : Steps p.tables e below S0 (T190.setTop (mkF m 195 #[.val (.int i0), .val (.int i1), .val (.int i2), .val (.int i3), .val (.int i4), .val (.int (3 : Int32)), .val (.int k161), .val (.int k163), .val (.int k165), .val (.int k167), .val (.ref x169), .val (.ref b170), .val (.int (Int32.ofNat ((own_esc [k161, k163, k165]) : List Int32).length)), .val (.ref r181)] [(.int (1 : Int32))])) := c190'
      have c191 : Steps p.tables e below S0 (T190.setTop (mkF m 205 #[.val (.int i0), .val (.int i1), .val (.int i2), .val (.int i3), .val (.int i4), .val (.int (3 : Int32)), .val (.int k161), .val (.int k163), .val (.int k165), .val (.int k167), .val (.ref x169), .val (.ref b170), .val (.int (Int32.ofNat ((own_esc [k161, k163, k165]) : List Int32).length)), .val (.ref r181)] [(.int (3 : Int32)), (.int (Int32.ofNat ((own_esc [k161, k163, k165]) : List Int32).length)), (.ref b170), (.ref r181)])) := c190.trans (by
        refine XS.ifNo X190.here hx rfl (hb hby at_195) rfl ((if0 _ _).trans (feq (by decide : ¬ ((1 : Int32) = (0 : Int32)))).1) ?_
        refine XS.aload X190.here hx rfl (hb hby at_198) rfl rfl ?_
        refine XS.aload X190.here hx rfl (hb hby at_200) rfl rfl ?_
        refine XS.iload X190.here hx rfl (hb hby at_202) rfl ?_
        refine XS.iconst X190.here hx rfl (hb hby at_204) ?_
        exact Steps.refl _)
      obtain ⟨v192, T192, L192, X192, ⟨N192', rfl, e192⟩, c192'⟩ := own_stat X190 hx hml hZ169 hown169 (hw _ (List.mem_of_getElem? (i := 46) rfl)) (hw _ (List.mem_of_getElem? (i := 47) rfl)) (hw _ (List.mem_of_getElem? (i := 3) rfl)) (hw _ (List.mem_of_getElem? (i := 48) rfl)) (by decide) (kc := 0) (ks := 0) (h := T181.heap) (W := 0) (argsL := [(.ref r181), (.ref b170), (.int (Int32.ofNat ((own_esc [k161, k163, k165]) : List Int32).length)), (.int (3 : Int32))]) (rest := []) (own_pay (W := 0) (rmAt l Z a0 hw (own_esc [k161, k163, k165]) r181 t181 kb181 b170 k170 3 z fm T181.heap ((((((O0.keep K169 all0).ext E170).keep K172 (allS ge170 all0)).keep K174 (allS ge170 all0)).keep K176 (allS ge170 all0)).keep K181 all0) E181 V181 Cd181 Kb181 (Vs178.keep K181 nin0) (own_escB hBs) (by decide) (Nat.le_trans hel (by decide)) SC hz SF hfm) hZ169 (hw _ (List.mem_of_getElem? (i := 48) rfl)) (hw _ (List.mem_of_getElem? (i := 3) rfl)) (by decide) (by decide)) c191 (lenOf pd_25 rfl) rfl (hb hby at_205) e190
      have N192 := Fr.app N190 N192'
      have c192 : Steps p.tables e below S0 (T192.setTop (mkF m 208 #[.val (.int i0), .val (.int i1), .val (.int i2), .val (.int i3), .val (.int i4), .val (.int (3 : Int32)), .val (.int k161), .val (.int k163), .val (.int k165), .val (.int k167), .val (.ref x169), .val (.ref b170), .val (.int (Int32.ofNat ((own_esc [k161, k163, k165]) : List Int32).length)), .val (.ref r181)] [(.int (1 : Int32))])) := c192'
      have c193 : Steps p.tables e below S0 (T192.setTop (mkF m 218 #[.val (.int i0), .val (.int i1), .val (.int i2), .val (.int i3), .val (.int i4), .val (.int (3 : Int32)), .val (.int k161), .val (.int k163), .val (.int k165), .val (.int k167), .val (.ref x169), .val (.ref b170), .val (.int (Int32.ofNat ((own_esc [k161, k163, k165]) : List Int32).length)), .val (.ref r181)] [(.int (4 : Int32)), (.int (Int32.ofNat ((own_esc [k161, k163, k165]) : List Int32).length)), (.ref b170), (.ref r181)])) := c192.trans (by
        refine XS.ifNo X192.here hx rfl (hb hby at_208) rfl ((if0 _ _).trans (feq (by decide : ¬ ((1 : Int32) = (0 : Int32)))).1) ?_
        refine XS.aload X192.here hx rfl (hb hby at_211) rfl rfl ?_
        refine XS.aload X192.here hx rfl (hb hby at_213) rfl rfl ?_
        refine XS.iload X192.here hx rfl (hb hby at_215) rfl ?_
        refine XS.iconst X192.here hx rfl (hb hby at_217) ?_
        exact Steps.refl _)
      obtain ⟨v194, T194, L194, X194, ⟨N194', rfl, e194⟩, c194'⟩ := own_stat X192 hx hml hZ169 hown169 (hw _ (List.mem_of_getElem? (i := 46) rfl)) (hw _ (List.mem_of_getElem? (i := 47) rfl)) (hw _ (List.mem_of_getElem? (i := 3) rfl)) (hw _ (List.mem_of_getElem? (i := 48) rfl)) (by decide) (kc := 0) (ks := 0) (h := T181.heap) (W := 0) (argsL := [(.ref r181), (.ref b170), (.int (Int32.ofNat ((own_esc [k161, k163, k165]) : List Int32).length)), (.int (4 : Int32))]) (rest := []) (own_pay (W := 0) (rmAt l Z a0 hw (own_esc [k161, k163, k165]) r181 t181 kb181 b170 k170 4 z fm T181.heap ((((((O0.keep K169 all0).ext E170).keep K172 (allS ge170 all0)).keep K174 (allS ge170 all0)).keep K176 (allS ge170 all0)).keep K181 all0) E181 V181 Cd181 Kb181 (Vs178.keep K181 nin0) (own_escB hBs) (by decide) (Nat.le_trans hel (by decide)) SC hz SF hfm) hZ169 (hw _ (List.mem_of_getElem? (i := 48) rfl)) (hw _ (List.mem_of_getElem? (i := 3) rfl)) (by decide) (by decide)) c193 (lenOf pd_25 rfl) rfl (hb hby at_218) e192
      have N194 := Fr.app N192 N194'
      have c194 : Steps p.tables e below S0 (T194.setTop (mkF m 221 #[.val (.int i0), .val (.int i1), .val (.int i2), .val (.int i3), .val (.int i4), .val (.int (3 : Int32)), .val (.int k161), .val (.int k163), .val (.int k165), .val (.int k167), .val (.ref x169), .val (.ref b170), .val (.int (Int32.ofNat ((own_esc [k161, k163, k165]) : List Int32).length)), .val (.ref r181)] [(.int (1 : Int32))])) := c194'
      have c195 : Steps p.tables e below S0 (T194.setTop (mkF m 231 #[.val (.int i0), .val (.int i1), .val (.int i2), .val (.int i3), .val (.int i4), .val (.int (3 : Int32)), .val (.int k161), .val (.int k163), .val (.int k165), .val (.int k167), .val (.ref x169), .val (.ref b170), .val (.int (Int32.ofNat ((own_esc [k161, k163, k165]) : List Int32).length)), .val (.ref r181)] [(.int (5 : Int32)), (.int (Int32.ofNat ((own_esc [k161, k163, k165]) : List Int32).length)), (.ref b170), (.ref r181)])) := c194.trans (by
        refine XS.ifNo X194.here hx rfl (hb hby at_221) rfl ((if0 _ _).trans (feq (by decide : ¬ ((1 : Int32) = (0 : Int32)))).1) ?_
        refine XS.aload X194.here hx rfl (hb hby at_224) rfl rfl ?_
        refine XS.aload X194.here hx rfl (hb hby at_226) rfl rfl ?_
        refine XS.iload X194.here hx rfl (hb hby at_228) rfl ?_
        refine XS.iconst X194.here hx rfl (hb hby at_230) ?_
        exact Steps.refl _)
      obtain ⟨v196, T196, L196, X196, ⟨N196', rfl, e196⟩, c196'⟩ := own_stat X194 hx hml hZ169 hown169 (hw _ (List.mem_of_getElem? (i := 46) rfl)) (hw _ (List.mem_of_getElem? (i := 47) rfl)) (hw _ (List.mem_of_getElem? (i := 3) rfl)) (hw _ (List.mem_of_getElem? (i := 48) rfl)) (by decide) (kc := 0) (ks := 0) (h := T181.heap) (W := 0) (argsL := [(.ref r181), (.ref b170), (.int (Int32.ofNat ((own_esc [k161, k163, k165]) : List Int32).length)), (.int (5 : Int32))]) (rest := []) (own_pay (W := 0) (rmAt l Z a0 hw (own_esc [k161, k163, k165]) r181 t181 kb181 b170 k170 5 z fm T181.heap ((((((O0.keep K169 all0).ext E170).keep K172 (allS ge170 all0)).keep K174 (allS ge170 all0)).keep K176 (allS ge170 all0)).keep K181 all0) E181 V181 Cd181 Kb181 (Vs178.keep K181 nin0) (own_escB hBs) (by decide) (Nat.le_trans hel (by decide)) SC hz SF hfm) hZ169 (hw _ (List.mem_of_getElem? (i := 48) rfl)) (hw _ (List.mem_of_getElem? (i := 3) rfl)) (by decide) (by decide)) c195 (lenOf pd_25 rfl) rfl (hb hby at_231) e194
      have N196 := Fr.app N194 N196'
      have c196 : Steps p.tables e below S0 (T196.setTop (mkF m 234 #[.val (.int i0), .val (.int i1), .val (.int i2), .val (.int i3), .val (.int i4), .val (.int (3 : Int32)), .val (.int k161), .val (.int k163), .val (.int k165), .val (.int k167), .val (.ref x169), .val (.ref b170), .val (.int (Int32.ofNat ((own_esc [k161, k163, k165]) : List Int32).length)), .val (.ref r181)] [(.int (1 : Int32))])) := c196'
      have c197 : Steps p.tables e below S0 (T196.setTop (mkF m 245 #[.val (.int i0), .val (.int i1), .val (.int i2), .val (.int i3), .val (.int i4), .val (.int (3 : Int32)), .val (.int k161), .val (.int k163), .val (.int k165), .val (.int k167), .val (.ref x169), .val (.ref b170), .val (.int (Int32.ofNat ((own_esc [k161, k163, k165]) : List Int32).length)), .val (.ref r181)] [(.int (6 : Int32)), (.int (Int32.ofNat ((own_esc [k161, k163, k165]) : List Int32).length)), (.ref b170), (.ref r181)])) := c196.trans (by
        refine XS.ifNo X196.here hx rfl (hb hby at_234) rfl ((if0 _ _).trans (feq (by decide : ¬ ((1 : Int32) = (0 : Int32)))).1) ?_
        refine XS.aload X196.here hx rfl (hb hby at_237) rfl rfl ?_
        refine XS.aload X196.here hx rfl (hb hby at_239) rfl rfl ?_
        refine XS.iload X196.here hx rfl (hb hby at_241) rfl ?_
        refine XS.bipush X196.here hx rfl (hb hby at_243) ?_
        exact Steps.refl _)
      obtain ⟨v198, T198, L198, X198, ⟨N198', rfl, e198⟩, c198'⟩ := own_stat X196 hx hml hZ169 hown169 (hw _ (List.mem_of_getElem? (i := 46) rfl)) (hw _ (List.mem_of_getElem? (i := 47) rfl)) (hw _ (List.mem_of_getElem? (i := 3) rfl)) (hw _ (List.mem_of_getElem? (i := 48) rfl)) (by decide) (kc := 0) (ks := 0) (h := T181.heap) (W := 0) (argsL := [(.ref r181), (.ref b170), (.int (Int32.ofNat ((own_esc [k161, k163, k165]) : List Int32).length)), (.int (6 : Int32))]) (rest := []) (own_pay (W := 0) (rmAt l Z a0 hw (own_esc [k161, k163, k165]) r181 t181 kb181 b170 k170 6 z fm T181.heap ((((((O0.keep K169 all0).ext E170).keep K172 (allS ge170 all0)).keep K174 (allS ge170 all0)).keep K176 (allS ge170 all0)).keep K181 all0) E181 V181 Cd181 Kb181 (Vs178.keep K181 nin0) (own_escB hBs) (by decide) (Nat.le_trans hel (by decide)) SC hz SF hfm) hZ169 (hw _ (List.mem_of_getElem? (i := 48) rfl)) (hw _ (List.mem_of_getElem? (i := 3) rfl)) (by decide) (by decide)) c197 (lenOf pd_25 rfl) rfl (hb hby at_245) e196
      have N198 := Fr.app N196 N198'
      have c198 : Steps p.tables e below S0 (T198.setTop (mkF m 248 #[.val (.int i0), .val (.int i1), .val (.int i2), .val (.int i3), .val (.int i4), .val (.int (3 : Int32)), .val (.int k161), .val (.int k163), .val (.int k165), .val (.int k167), .val (.ref x169), .val (.ref b170), .val (.int (Int32.ofNat ((own_esc [k161, k163, k165]) : List Int32).length)), .val (.ref r181)] [(.int (1 : Int32))])) := c198'
      have c199 : Steps p.tables e below S0 (T198.setTop (mkF m 259 #[.val (.int i0), .val (.int i1), .val (.int i2), .val (.int i3), .val (.int i4), .val (.int (3 : Int32)), .val (.int k161), .val (.int k163), .val (.int k165), .val (.int k167), .val (.ref x169), .val (.ref b170), .val (.int (Int32.ofNat ((own_esc [k161, k163, k165]) : List Int32).length)), .val (.ref r181)] [(.int (7 : Int32)), (.int (Int32.ofNat ((own_esc [k161, k163, k165]) : List Int32).length)), (.ref b170), (.ref r181)])) := c198.trans (by
        refine XS.ifNo X198.here hx rfl (hb hby at_248) rfl ((if0 _ _).trans (feq (by decide : ¬ ((1 : Int32) = (0 : Int32)))).1) ?_
        refine XS.aload X198.here hx rfl (hb hby at_251) rfl rfl ?_
        refine XS.aload X198.here hx rfl (hb hby at_253) rfl rfl ?_
        refine XS.iload X198.here hx rfl (hb hby at_255) rfl ?_
        refine XS.bipush X198.here hx rfl (hb hby at_257) ?_
        exact Steps.refl _)
      obtain ⟨v200, T200, L200, X200, ⟨N200', rfl, e200⟩, c200'⟩ := own_stat X198 hx hml hZ169 hown169 (hw _ (List.mem_of_getElem? (i := 46) rfl)) (hw _ (List.mem_of_getElem? (i := 47) rfl)) (hw _ (List.mem_of_getElem? (i := 3) rfl)) (hw _ (List.mem_of_getElem? (i := 48) rfl)) (by decide) (kc := 0) (ks := 0) (h := T181.heap) (W := 0) (argsL := [(.ref r181), (.ref b170), (.int (Int32.ofNat ((own_esc [k161, k163, k165]) : List Int32).length)), (.int (7 : Int32))]) (rest := []) (own_pay (W := 0) (rmAt l Z a0 hw (own_esc [k161, k163, k165]) r181 t181 kb181 b170 k170 7 z fm T181.heap ((((((O0.keep K169 all0).ext E170).keep K172 (allS ge170 all0)).keep K174 (allS ge170 all0)).keep K176 (allS ge170 all0)).keep K181 all0) E181 V181 Cd181 Kb181 (Vs178.keep K181 nin0) (own_escB hBs) (by decide) (Nat.le_trans hel (by decide)) SC hz SF hfm) hZ169 (hw _ (List.mem_of_getElem? (i := 48) rfl)) (hw _ (List.mem_of_getElem? (i := 3) rfl)) (by decide) (by decide)) c199 (lenOf pd_25 rfl) rfl (hb hby at_259) e198
      have N200 := Fr.app N198 N200'
      have c200 : Steps p.tables e below S0 (T200.setTop (mkF m 262 #[.val (.int i0), .val (.int i1), .val (.int i2), .val (.int i3), .val (.int i4), .val (.int (3 : Int32)), .val (.int k161), .val (.int k163), .val (.int k165), .val (.int k167), .val (.ref x169), .val (.ref b170), .val (.int (Int32.ofNat ((own_esc [k161, k163, k165]) : List Int32).length)), .val (.ref r181)] [(.int (1 : Int32))])) := c200'
      have c201 : Steps p.tables e below S0 (T200.setTop (mkF m 270 #[.val (.int i0), .val (.int i1), .val (.int i2), .val (.int i3), .val (.int i4), .val (.int (3 : Int32)), .val (.int k161), .val (.int k163), .val (.int k165), .val (.int k167), .val (.ref x169), .val (.ref b170), .val (.int (Int32.ofNat ((own_esc [k161, k163, k165]) : List Int32).length)), .val (.ref r181)] [(.int (1 : Int32))])) := c200.trans (by
        refine XS.ifNo X200.here hx rfl (hb hby at_262) rfl ((if0 _ _).trans (feq (by decide : ¬ ((1 : Int32) = (0 : Int32)))).1) ?_
        refine XS.iconst X200.here hx rfl (hb hby at_265) ?_
        refine XS.goto X200.here hx rfl (pc0 := 266) (pc' := 270) rfl (hb hby at_266) (by decide) (by decide) ?_
        exact Steps.refl _)
      refine ⟨T200, T169.vm, _, (some (.int (1 : Int32))), _, _, _, X200, by decide, by decide, (fun q => by cases q), N200, hS169, by rw [e200]; exact hk181, hZ169, by rw [e200]; exact CR181, ?_, fun fs hr => ?_⟩
      · skip
        exact rfl
      · exact c201.trans (retN X200 hx (t := .boolean) hret (by simp) (hb hby at_270) hr)
    · skip
      have c203 : Steps p.tables e below S0 (T183.setTop (mkF m 166 #[.val (.int i0), .val (.int i1), .val (.int i2), .val (.int i3), .val (.int i4), .val (.int (3 : Int32)), .val (.int k161), .val (.int k163), .val (.int k165), .val (.int k167), .val (.ref x169), .val (.ref b170), .val (.int (Int32.ofNat ((own_esc [k161, k163, k165]) : List Int32).length)), .val (.ref r181)] [(.int (0 : Int32)), (.int (Int32.ofNat ((own_esc [k161, k163, k165]) : List Int32).length)), (.ref b170), (.ref r181)])) := c184.trans (by
        refine XS.icmpYes X183.here hx rfl (pc0 := 147) (pc' := 159) rfl (hb hby at_147) rfl (feq (own_neN (b := 3) (Nat.lt_of_le_of_lt hel (by decide)) (by decide) (fun q => Nat.lt_irrefl _ (Nat.lt_of_lt_of_eq hg181 q)))).2 (by decide) (by decide) ?_
        refine XS.aload X183.here hx rfl (hb hby at_159) rfl rfl ?_
        refine XS.aload X183.here hx rfl (hb hby at_161) rfl rfl ?_
        refine XS.iload X183.here hx rfl (hb hby at_163) rfl ?_
        refine XS.iconst X183.here hx rfl (hb hby at_165) ?_
        exact Steps.refl _)
      obtain ⟨v204, T204, L204, X204, ⟨N204', rfl, e204⟩, c204'⟩ := own_stat X183 hx hml hZ169 hown169 (hw _ (List.mem_of_getElem? (i := 46) rfl)) (hw _ (List.mem_of_getElem? (i := 47) rfl)) (hw _ (List.mem_of_getElem? (i := 3) rfl)) (hw _ (List.mem_of_getElem? (i := 48) rfl)) (by decide) (kc := 0) (ks := 0) (h := T181.heap) (W := 0) (argsL := [(.ref r181), (.ref b170), (.int (Int32.ofNat ((own_esc [k161, k163, k165]) : List Int32).length)), (.int (0 : Int32))]) (rest := []) (own_pay (W := 0) (rmAt l Z a0 hw (own_esc [k161, k163, k165]) r181 t181 kb181 b170 k170 0 z fm T181.heap ((((((O0.keep K169 all0).ext E170).keep K172 (allS ge170 all0)).keep K174 (allS ge170 all0)).keep K176 (allS ge170 all0)).keep K181 all0) E181 V181 Cd181 Kb181 (Vs178.keep K181 nin0) (own_escB hBs) (by decide) (Nat.le_trans hel (by decide)) SC hz SF hfm) hZ169 (hw _ (List.mem_of_getElem? (i := 48) rfl)) (hw _ (List.mem_of_getElem? (i := 3) rfl)) (by decide) (by decide)) c203 (lenOf pd_25 rfl) rfl (hb hby at_166) e183
      have N204 := Fr.app N183 N204'
      have c204 : Steps p.tables e below S0 (T204.setTop (mkF m 169 #[.val (.int i0), .val (.int i1), .val (.int i2), .val (.int i3), .val (.int i4), .val (.int (3 : Int32)), .val (.int k161), .val (.int k163), .val (.int k165), .val (.int k167), .val (.ref x169), .val (.ref b170), .val (.int (Int32.ofNat ((own_esc [k161, k163, k165]) : List Int32).length)), .val (.ref r181)] [(.int (1 : Int32))])) := c204'
      have c205 : Steps p.tables e below S0 (T204.setTop (mkF m 179 #[.val (.int i0), .val (.int i1), .val (.int i2), .val (.int i3), .val (.int i4), .val (.int (3 : Int32)), .val (.int k161), .val (.int k163), .val (.int k165), .val (.int k167), .val (.ref x169), .val (.ref b170), .val (.int (Int32.ofNat ((own_esc [k161, k163, k165]) : List Int32).length)), .val (.ref r181)] [(.int (1 : Int32)), (.int (Int32.ofNat ((own_esc [k161, k163, k165]) : List Int32).length)), (.ref b170), (.ref r181)])) := c204.trans (by
        refine XS.ifNo X204.here hx rfl (hb hby at_169) rfl ((if0 _ _).trans (feq (by decide : ¬ ((1 : Int32) = (0 : Int32)))).1) ?_
        refine XS.aload X204.here hx rfl (hb hby at_172) rfl rfl ?_
        refine XS.aload X204.here hx rfl (hb hby at_174) rfl rfl ?_
        refine XS.iload X204.here hx rfl (hb hby at_176) rfl ?_
        refine XS.iconst X204.here hx rfl (hb hby at_178) ?_
        exact Steps.refl _)
      obtain ⟨v206, T206, L206, X206, ⟨N206', rfl, e206⟩, c206'⟩ := own_stat X204 hx hml hZ169 hown169 (hw _ (List.mem_of_getElem? (i := 46) rfl)) (hw _ (List.mem_of_getElem? (i := 47) rfl)) (hw _ (List.mem_of_getElem? (i := 3) rfl)) (hw _ (List.mem_of_getElem? (i := 48) rfl)) (by decide) (kc := 0) (ks := 0) (h := T181.heap) (W := 0) (argsL := [(.ref r181), (.ref b170), (.int (Int32.ofNat ((own_esc [k161, k163, k165]) : List Int32).length)), (.int (1 : Int32))]) (rest := []) (own_pay (W := 0) (rmAt l Z a0 hw (own_esc [k161, k163, k165]) r181 t181 kb181 b170 k170 1 z fm T181.heap ((((((O0.keep K169 all0).ext E170).keep K172 (allS ge170 all0)).keep K174 (allS ge170 all0)).keep K176 (allS ge170 all0)).keep K181 all0) E181 V181 Cd181 Kb181 (Vs178.keep K181 nin0) (own_escB hBs) (by decide) (Nat.le_trans hel (by decide)) SC hz SF hfm) hZ169 (hw _ (List.mem_of_getElem? (i := 48) rfl)) (hw _ (List.mem_of_getElem? (i := 3) rfl)) (by decide) (by decide)) c205 (lenOf pd_25 rfl) rfl (hb hby at_179) e204
      have N206 := Fr.app N204 N206'
      have c206 : Steps p.tables e below S0 (T206.setTop (mkF m 182 #[.val (.int i0), .val (.int i1), .val (.int i2), .val (.int i3), .val (.int i4), .val (.int (3 : Int32)), .val (.int k161), .val (.int k163), .val (.int k165), .val (.int k167), .val (.ref x169), .val (.ref b170), .val (.int (Int32.ofNat ((own_esc [k161, k163, k165]) : List Int32).length)), .val (.ref r181)] [(.int (1 : Int32))])) := c206'
      have c207 : Steps p.tables e below S0 (T206.setTop (mkF m 192 #[.val (.int i0), .val (.int i1), .val (.int i2), .val (.int i3), .val (.int i4), .val (.int (3 : Int32)), .val (.int k161), .val (.int k163), .val (.int k165), .val (.int k167), .val (.ref x169), .val (.ref b170), .val (.int (Int32.ofNat ((own_esc [k161, k163, k165]) : List Int32).length)), .val (.ref r181)] [(.int (2 : Int32)), (.int (Int32.ofNat ((own_esc [k161, k163, k165]) : List Int32).length)), (.ref b170), (.ref r181)])) := c206.trans (by
        refine XS.ifNo X206.here hx rfl (hb hby at_182) rfl ((if0 _ _).trans (feq (by decide : ¬ ((1 : Int32) = (0 : Int32)))).1) ?_
        refine XS.aload X206.here hx rfl (hb hby at_185) rfl rfl ?_
        refine XS.aload X206.here hx rfl (hb hby at_187) rfl rfl ?_
        refine XS.iload X206.here hx rfl (hb hby at_189) rfl ?_
        refine XS.iconst X206.here hx rfl (hb hby at_191) ?_
        exact Steps.refl _)
      obtain ⟨v208, T208, L208, X208, ⟨N208', rfl, e208⟩, c208'⟩ := own_stat X206 hx hml hZ169 hown169 (hw _ (List.mem_of_getElem? (i := 46) rfl)) (hw _ (List.mem_of_getElem? (i := 47) rfl)) (hw _ (List.mem_of_getElem? (i := 3) rfl)) (hw _ (List.mem_of_getElem? (i := 48) rfl)) (by decide) (kc := 0) (ks := 0) (h := T181.heap) (W := 0) (argsL := [(.ref r181), (.ref b170), (.int (Int32.ofNat ((own_esc [k161, k163, k165]) : List Int32).length)), (.int (2 : Int32))]) (rest := []) (own_pay (W := 0) (rmAt l Z a0 hw (own_esc [k161, k163, k165]) r181 t181 kb181 b170 k170 2 z fm T181.heap ((((((O0.keep K169 all0).ext E170).keep K172 (allS ge170 all0)).keep K174 (allS ge170 all0)).keep K176 (allS ge170 all0)).keep K181 all0) E181 V181 Cd181 Kb181 (Vs178.keep K181 nin0) (own_escB hBs) (by decide) (Nat.le_trans hel (by decide)) SC hz SF hfm) hZ169 (hw _ (List.mem_of_getElem? (i := 48) rfl)) (hw _ (List.mem_of_getElem? (i := 3) rfl)) (by decide) (by decide)) c207 (lenOf pd_25 rfl) rfl (hb hby at_192) e206
      have N208 := Fr.app N206 N208'
      have c208 : Steps p.tables e below S0 (T208.setTop (mkF m 195 #[.val (.int i0), .val (.int i1), .val (.int i2), .val (.int i3), .val (.int i4), .val (.int (3 : Int32)), .val (.int k161), .val (.int k163), .val (.int k165), .val (.int k167), .val (.ref x169), .val (.ref b170), .val (.int (Int32.ofNat ((own_esc [k161, k163, k165]) : List Int32).length)), .val (.ref r181)] [(.int (1 : Int32))])) := c208'
      have c209 : Steps p.tables e below S0 (T208.setTop (mkF m 205 #[.val (.int i0), .val (.int i1), .val (.int i2), .val (.int i3), .val (.int i4), .val (.int (3 : Int32)), .val (.int k161), .val (.int k163), .val (.int k165), .val (.int k167), .val (.ref x169), .val (.ref b170), .val (.int (Int32.ofNat ((own_esc [k161, k163, k165]) : List Int32).length)), .val (.ref r181)] [(.int (3 : Int32)), (.int (Int32.ofNat ((own_esc [k161, k163, k165]) : List Int32).length)), (.ref b170), (.ref r181)])) := c208.trans (by
        refine XS.ifNo X208.here hx rfl (hb hby at_195) rfl ((if0 _ _).trans (feq (by decide : ¬ ((1 : Int32) = (0 : Int32)))).1) ?_
        refine XS.aload X208.here hx rfl (hb hby at_198) rfl rfl ?_
        refine XS.aload X208.here hx rfl (hb hby at_200) rfl rfl ?_
        refine XS.iload X208.here hx rfl (hb hby at_202) rfl ?_
        refine XS.iconst X208.here hx rfl (hb hby at_204) ?_
        exact Steps.refl _)
      obtain ⟨v210, T210, L210, X210, ⟨N210', rfl, e210⟩, c210'⟩ := own_stat X208 hx hml hZ169 hown169 (hw _ (List.mem_of_getElem? (i := 46) rfl)) (hw _ (List.mem_of_getElem? (i := 47) rfl)) (hw _ (List.mem_of_getElem? (i := 3) rfl)) (hw _ (List.mem_of_getElem? (i := 48) rfl)) (by decide) (kc := 0) (ks := 0) (h := T181.heap) (W := 0) (argsL := [(.ref r181), (.ref b170), (.int (Int32.ofNat ((own_esc [k161, k163, k165]) : List Int32).length)), (.int (3 : Int32))]) (rest := []) (own_pay (W := 0) (rmAt l Z a0 hw (own_esc [k161, k163, k165]) r181 t181 kb181 b170 k170 3 z fm T181.heap ((((((O0.keep K169 all0).ext E170).keep K172 (allS ge170 all0)).keep K174 (allS ge170 all0)).keep K176 (allS ge170 all0)).keep K181 all0) E181 V181 Cd181 Kb181 (Vs178.keep K181 nin0) (own_escB hBs) (by decide) (Nat.le_trans hel (by decide)) SC hz SF hfm) hZ169 (hw _ (List.mem_of_getElem? (i := 48) rfl)) (hw _ (List.mem_of_getElem? (i := 3) rfl)) (by decide) (by decide)) c209 (lenOf pd_25 rfl) rfl (hb hby at_205) e208
      have N210 := Fr.app N208 N210'
      have c210 : Steps p.tables e below S0 (T210.setTop (mkF m 208 #[.val (.int i0), .val (.int i1), .val (.int i2), .val (.int i3), .val (.int i4), .val (.int (3 : Int32)), .val (.int k161), .val (.int k163), .val (.int k165), .val (.int k167), .val (.ref x169), .val (.ref b170), .val (.int (Int32.ofNat ((own_esc [k161, k163, k165]) : List Int32).length)), .val (.ref r181)] [(.int (1 : Int32))])) := c210'
      have c211 : Steps p.tables e below S0 (T210.setTop (mkF m 218 #[.val (.int i0), .val (.int i1), .val (.int i2), .val (.int i3), .val (.int i4), .val (.int (3 : Int32)), .val (.int k161), .val (.int k163), .val (.int k165), .val (.int k167), .val (.ref x169), .val (.ref b170), .val (.int (Int32.ofNat ((own_esc [k161, k163, k165]) : List Int32).length)), .val (.ref r181)] [(.int (4 : Int32)), (.int (Int32.ofNat ((own_esc [k161, k163, k165]) : List Int32).length)), (.ref b170), (.ref r181)])) := c210.trans (by
        refine XS.ifNo X210.here hx rfl (hb hby at_208) rfl ((if0 _ _).trans (feq (by decide : ¬ ((1 : Int32) = (0 : Int32)))).1) ?_
        refine XS.aload X210.here hx rfl (hb hby at_211) rfl rfl ?_
        refine XS.aload X210.here hx rfl (hb hby at_213) rfl rfl ?_
        refine XS.iload X210.here hx rfl (hb hby at_215) rfl ?_
        refine XS.iconst X210.here hx rfl (hb hby at_217) ?_
        exact Steps.refl _)
      obtain ⟨v212, T212, L212, X212, ⟨N212', rfl, e212⟩, c212'⟩ := own_stat X210 hx hml hZ169 hown169 (hw _ (List.mem_of_getElem? (i := 46) rfl)) (hw _ (List.mem_of_getElem? (i := 47) rfl)) (hw _ (List.mem_of_getElem? (i := 3) rfl)) (hw _ (List.mem_of_getElem? (i := 48) rfl)) (by decide) (kc := 0) (ks := 0) (h := T181.heap) (W := 0) (argsL := [(.ref r181), (.ref b170), (.int (Int32.ofNat ((own_esc [k161, k163, k165]) : List Int32).length)), (.int (4 : Int32))]) (rest := []) (own_pay (W := 0) (rmAt l Z a0 hw (own_esc [k161, k163, k165]) r181 t181 kb181 b170 k170 4 z fm T181.heap ((((((O0.keep K169 all0).ext E170).keep K172 (allS ge170 all0)).keep K174 (allS ge170 all0)).keep K176 (allS ge170 all0)).keep K181 all0) E181 V181 Cd181 Kb181 (Vs178.keep K181 nin0) (own_escB hBs) (by decide) (Nat.le_trans hel (by decide)) SC hz SF hfm) hZ169 (hw _ (List.mem_of_getElem? (i := 48) rfl)) (hw _ (List.mem_of_getElem? (i := 3) rfl)) (by decide) (by decide)) c211 (lenOf pd_25 rfl) rfl (hb hby at_218) e210
      have N212 := Fr.app N210 N212'
      have c212 : Steps p.tables e below S0 (T212.setTop (mkF m 221 #[.val (.int i0), .val (.int i1), .val (.int i2), .val (.int i3), .val (.int i4), .val (.int (3 : Int32)), .val (.int k161), .val (.int k163), .val (.int k165), .val (.int k167), .val (.ref x169), .val (.ref b170), .val (.int (Int32.ofNat ((own_esc [k161, k163, k165]) : List Int32).length)), .val (.ref r181)] [(.int (1 : Int32))])) := c212'
      have c213 : Steps p.tables e below S0 (T212.setTop (mkF m 231 #[.val (.int i0), .val (.int i1), .val (.int i2), .val (.int i3), .val (.int i4), .val (.int (3 : Int32)), .val (.int k161), .val (.int k163), .val (.int k165), .val (.int k167), .val (.ref x169), .val (.ref b170), .val (.int (Int32.ofNat ((own_esc [k161, k163, k165]) : List Int32).length)), .val (.ref r181)] [(.int (5 : Int32)), (.int (Int32.ofNat ((own_esc [k161, k163, k165]) : List Int32).length)), (.ref b170), (.ref r181)])) := c212.trans (by
        refine XS.ifNo X212.here hx rfl (hb hby at_221) rfl ((if0 _ _).trans (feq (by decide : ¬ ((1 : Int32) = (0 : Int32)))).1) ?_
        refine XS.aload X212.here hx rfl (hb hby at_224) rfl rfl ?_
        refine XS.aload X212.here hx rfl (hb hby at_226) rfl rfl ?_
        refine XS.iload X212.here hx rfl (hb hby at_228) rfl ?_
        refine XS.iconst X212.here hx rfl (hb hby at_230) ?_
        exact Steps.refl _)
      obtain ⟨v214, T214, L214, X214, ⟨N214', rfl, e214⟩, c214'⟩ := own_stat X212 hx hml hZ169 hown169 (hw _ (List.mem_of_getElem? (i := 46) rfl)) (hw _ (List.mem_of_getElem? (i := 47) rfl)) (hw _ (List.mem_of_getElem? (i := 3) rfl)) (hw _ (List.mem_of_getElem? (i := 48) rfl)) (by decide) (kc := 0) (ks := 0) (h := T181.heap) (W := 0) (argsL := [(.ref r181), (.ref b170), (.int (Int32.ofNat ((own_esc [k161, k163, k165]) : List Int32).length)), (.int (5 : Int32))]) (rest := []) (own_pay (W := 0) (rmAt l Z a0 hw (own_esc [k161, k163, k165]) r181 t181 kb181 b170 k170 5 z fm T181.heap ((((((O0.keep K169 all0).ext E170).keep K172 (allS ge170 all0)).keep K174 (allS ge170 all0)).keep K176 (allS ge170 all0)).keep K181 all0) E181 V181 Cd181 Kb181 (Vs178.keep K181 nin0) (own_escB hBs) (by decide) (Nat.le_trans hel (by decide)) SC hz SF hfm) hZ169 (hw _ (List.mem_of_getElem? (i := 48) rfl)) (hw _ (List.mem_of_getElem? (i := 3) rfl)) (by decide) (by decide)) c213 (lenOf pd_25 rfl) rfl (hb hby at_231) e212
      have N214 := Fr.app N212 N214'
      have c214 : Steps p.tables e below S0 (T214.setTop (mkF m 234 #[.val (.int i0), .val (.int i1), .val (.int i2), .val (.int i3), .val (.int i4), .val (.int (3 : Int32)), .val (.int k161), .val (.int k163), .val (.int k165), .val (.int k167), .val (.ref x169), .val (.ref b170), .val (.int (Int32.ofNat ((own_esc [k161, k163, k165]) : List Int32).length)), .val (.ref r181)] [(.int (1 : Int32))])) := c214'
      have c215 : Steps p.tables e below S0 (T214.setTop (mkF m 245 #[.val (.int i0), .val (.int i1), .val (.int i2), .val (.int i3), .val (.int i4), .val (.int (3 : Int32)), .val (.int k161), .val (.int k163), .val (.int k165), .val (.int k167), .val (.ref x169), .val (.ref b170), .val (.int (Int32.ofNat ((own_esc [k161, k163, k165]) : List Int32).length)), .val (.ref r181)] [(.int (6 : Int32)), (.int (Int32.ofNat ((own_esc [k161, k163, k165]) : List Int32).length)), (.ref b170), (.ref r181)])) := c214.trans (by
        refine XS.ifNo X214.here hx rfl (hb hby at_234) rfl ((if0 _ _).trans (feq (by decide : ¬ ((1 : Int32) = (0 : Int32)))).1) ?_
        refine XS.aload X214.here hx rfl (hb hby at_237) rfl rfl ?_
        refine XS.aload X214.here hx rfl (hb hby at_239) rfl rfl ?_
        refine XS.iload X214.here hx rfl (hb hby at_241) rfl ?_
        refine XS.bipush X214.here hx rfl (hb hby at_243) ?_
        exact Steps.refl _)
      obtain ⟨v216, T216, L216, X216, ⟨N216', rfl, e216⟩, c216'⟩ := own_stat X214 hx hml hZ169 hown169 (hw _ (List.mem_of_getElem? (i := 46) rfl)) (hw _ (List.mem_of_getElem? (i := 47) rfl)) (hw _ (List.mem_of_getElem? (i := 3) rfl)) (hw _ (List.mem_of_getElem? (i := 48) rfl)) (by decide) (kc := 0) (ks := 0) (h := T181.heap) (W := 0) (argsL := [(.ref r181), (.ref b170), (.int (Int32.ofNat ((own_esc [k161, k163, k165]) : List Int32).length)), (.int (6 : Int32))]) (rest := []) (own_pay (W := 0) (rmAt l Z a0 hw (own_esc [k161, k163, k165]) r181 t181 kb181 b170 k170 6 z fm T181.heap ((((((O0.keep K169 all0).ext E170).keep K172 (allS ge170 all0)).keep K174 (allS ge170 all0)).keep K176 (allS ge170 all0)).keep K181 all0) E181 V181 Cd181 Kb181 (Vs178.keep K181 nin0) (own_escB hBs) (by decide) (Nat.le_trans hel (by decide)) SC hz SF hfm) hZ169 (hw _ (List.mem_of_getElem? (i := 48) rfl)) (hw _ (List.mem_of_getElem? (i := 3) rfl)) (by decide) (by decide)) c215 (lenOf pd_25 rfl) rfl (hb hby at_245) e214
      have N216 := Fr.app N214 N216'
      have c216 : Steps p.tables e below S0 (T216.setTop (mkF m 248 #[.val (.int i0), .val (.int i1), .val (.int i2), .val (.int i3), .val (.int i4), .val (.int (3 : Int32)), .val (.int k161), .val (.int k163), .val (.int k165), .val (.int k167), .val (.ref x169), .val (.ref b170), .val (.int (Int32.ofNat ((own_esc [k161, k163, k165]) : List Int32).length)), .val (.ref r181)] [(.int (1 : Int32))])) := c216'
      have c217 : Steps p.tables e below S0 (T216.setTop (mkF m 259 #[.val (.int i0), .val (.int i1), .val (.int i2), .val (.int i3), .val (.int i4), .val (.int (3 : Int32)), .val (.int k161), .val (.int k163), .val (.int k165), .val (.int k167), .val (.ref x169), .val (.ref b170), .val (.int (Int32.ofNat ((own_esc [k161, k163, k165]) : List Int32).length)), .val (.ref r181)] [(.int (7 : Int32)), (.int (Int32.ofNat ((own_esc [k161, k163, k165]) : List Int32).length)), (.ref b170), (.ref r181)])) := c216.trans (by
        refine XS.ifNo X216.here hx rfl (hb hby at_248) rfl ((if0 _ _).trans (feq (by decide : ¬ ((1 : Int32) = (0 : Int32)))).1) ?_
        refine XS.aload X216.here hx rfl (hb hby at_251) rfl rfl ?_
        refine XS.aload X216.here hx rfl (hb hby at_253) rfl rfl ?_
        refine XS.iload X216.here hx rfl (hb hby at_255) rfl ?_
        refine XS.bipush X216.here hx rfl (hb hby at_257) ?_
        exact Steps.refl _)
      obtain ⟨v218, T218, L218, X218, ⟨N218', rfl, e218⟩, c218'⟩ := own_stat X216 hx hml hZ169 hown169 (hw _ (List.mem_of_getElem? (i := 46) rfl)) (hw _ (List.mem_of_getElem? (i := 47) rfl)) (hw _ (List.mem_of_getElem? (i := 3) rfl)) (hw _ (List.mem_of_getElem? (i := 48) rfl)) (by decide) (kc := 0) (ks := 0) (h := T181.heap) (W := 0) (argsL := [(.ref r181), (.ref b170), (.int (Int32.ofNat ((own_esc [k161, k163, k165]) : List Int32).length)), (.int (7 : Int32))]) (rest := []) (own_pay (W := 0) (rmAt l Z a0 hw (own_esc [k161, k163, k165]) r181 t181 kb181 b170 k170 7 z fm T181.heap ((((((O0.keep K169 all0).ext E170).keep K172 (allS ge170 all0)).keep K174 (allS ge170 all0)).keep K176 (allS ge170 all0)).keep K181 all0) E181 V181 Cd181 Kb181 (Vs178.keep K181 nin0) (own_escB hBs) (by decide) (Nat.le_trans hel (by decide)) SC hz SF hfm) hZ169 (hw _ (List.mem_of_getElem? (i := 48) rfl)) (hw _ (List.mem_of_getElem? (i := 3) rfl)) (by decide) (by decide)) c217 (lenOf pd_25 rfl) rfl (hb hby at_259) e216
      have N218 := Fr.app N216 N218'
      have c218 : Steps p.tables e below S0 (T218.setTop (mkF m 262 #[.val (.int i0), .val (.int i1), .val (.int i2), .val (.int i3), .val (.int i4), .val (.int (3 : Int32)), .val (.int k161), .val (.int k163), .val (.int k165), .val (.int k167), .val (.ref x169), .val (.ref b170), .val (.int (Int32.ofNat ((own_esc [k161, k163, k165]) : List Int32).length)), .val (.ref r181)] [(.int (1 : Int32))])) := c218'
      have c219 : Steps p.tables e below S0 (T218.setTop (mkF m 270 #[.val (.int i0), .val (.int i1), .val (.int i2), .val (.int i3), .val (.int i4), .val (.int (3 : Int32)), .val (.int k161), .val (.int k163), .val (.int k165), .val (.int k167), .val (.ref x169), .val (.ref b170), .val (.int (Int32.ofNat ((own_esc [k161, k163, k165]) : List Int32).length)), .val (.ref r181)] [(.int (1 : Int32))])) := c218.trans (by
        refine XS.ifNo X218.here hx rfl (hb hby at_262) rfl ((if0 _ _).trans (feq (by decide : ¬ ((1 : Int32) = (0 : Int32)))).1) ?_
        refine XS.iconst X218.here hx rfl (hb hby at_265) ?_
        refine XS.goto X218.here hx rfl (pc0 := 266) (pc' := 270) rfl (hb hby at_266) (by decide) (by decide) ?_
        exact Steps.refl _)
      refine ⟨T218, T169.vm, _, (some (.int (1 : Int32))), _, _, _, X218, by decide, by decide, (fun q => by cases q), N218, hS169, by rw [e218]; exact hk181, hZ169, by rw [e218]; exact CR181, ?_, fun fs hr => ?_⟩
      · skip
        exact rfl
      · exact c219.trans (retN X218 hx (t := .boolean) hret (by simp) (hb hby at_270) hr)
  · skip
    have eq221 : ((i0 &&& (2147483647 : Int32)) % (5 : Int32)) = (4 : Int32) := q3
    have c221 : Steps p.tables e below S0 (s₁.setTop (mkF m 6 #[.val (.int i0), .val (.int i1), .val (.int i2), .val (.int i3), .val (.int i4), .unset, .unset, .unset, .unset, .unset, .unset, .unset, .unset, .unset] [(.int (4 : Int32))])) := by have q := c2; rw [eq221] at q; exact q
    have c222 : Steps p.tables e below S0 (s₁.setTop (mkF m 9 #[.val (.int i0), .val (.int i1), .val (.int i2), .val (.int i3), .val (.int i4), .val (.int (4 : Int32)), .unset, .unset, .unset, .unset, .unset, .unset, .unset, .unset] [(.int i1)])) := c221.trans (by
      refine XS.istore X0.here hx rfl (hb hby at_6) rfl (l' := #[.val (.int i0), .val (.int i1), .val (.int i2), .val (.int i3), .val (.int i4), .val (.int (4 : Int32)), .unset, .unset, .unset, .unset, .unset, .unset, .unset, .unset]) rfl ?_
      refine XS.iloadN X0.here hx rfl (hb hby at_8) rfl ?_
      exact Steps.refl _)
    obtain ⟨v223, T223, L223, X223, ⟨N223', k223, hB223, rfl, e223⟩, c223'⟩ := own_stat X0 hx hml hZ hown (hw _ (List.mem_of_getElem? (i := 1) rfl)) (hw _ (List.mem_of_getElem? (i := 2) rfl)) (hw _ (List.mem_of_getElem? (i := 3) rfl)) (hw _ (List.mem_of_getElem? (i := 4) rfl)) (by decide) (kc := 0) (ks := 0) (h := h0) (W := 0) (argsL := [(.int i1)]) (rest := []) (own_pay (W := 0) (rmDraw l Z a0 hw i1 h0 O0) hZ (hw _ (List.mem_of_getElem? (i := 4) rfl)) (hw _ (List.mem_of_getElem? (i := 3) rfl)) (by decide) (by decide)) c222 (lenOf pd_17 rfl) rfl (hb hby at_9) e0
    have N223 := Fr.app N0 N223'
    have c223 : Steps p.tables e below S0 (T223.setTop (mkF m 12 #[.val (.int i0), .val (.int i1), .val (.int i2), .val (.int i3), .val (.int i4), .val (.int (4 : Int32)), .unset, .unset, .unset, .unset, .unset, .unset, .unset, .unset] [(.int k223)])) := c223'
    have c224 : Steps p.tables e below S0 (T223.setTop (mkF m 15 #[.val (.int i0), .val (.int i1), .val (.int i2), .val (.int i3), .val (.int i4), .val (.int (4 : Int32)), .val (.int k223), .unset, .unset, .unset, .unset, .unset, .unset, .unset] [(.int i2)])) := c223.trans (by
      refine XS.istore X223.here hx rfl (hb hby at_12) rfl (l' := #[.val (.int i0), .val (.int i1), .val (.int i2), .val (.int i3), .val (.int i4), .val (.int (4 : Int32)), .val (.int k223), .unset, .unset, .unset, .unset, .unset, .unset, .unset]) rfl ?_
      refine XS.iloadN X223.here hx rfl (hb hby at_14) rfl ?_
      exact Steps.refl _)
    obtain ⟨v225, T225, L225, X225, ⟨N225', k225, hB225, rfl, e225⟩, c225'⟩ := own_stat X223 hx hml hZ hown (hw _ (List.mem_of_getElem? (i := 1) rfl)) (hw _ (List.mem_of_getElem? (i := 2) rfl)) (hw _ (List.mem_of_getElem? (i := 3) rfl)) (hw _ (List.mem_of_getElem? (i := 4) rfl)) (by decide) (kc := 0) (ks := 0) (h := h0) (W := 0) (argsL := [(.int i2)]) (rest := []) (own_pay (W := 0) (rmDraw l Z a0 hw i2 h0 O0) hZ (hw _ (List.mem_of_getElem? (i := 4) rfl)) (hw _ (List.mem_of_getElem? (i := 3) rfl)) (by decide) (by decide)) c224 (lenOf pd_17 rfl) rfl (hb hby at_15) e223
    have N225 := Fr.app N223 N225'
    have c225 : Steps p.tables e below S0 (T225.setTop (mkF m 18 #[.val (.int i0), .val (.int i1), .val (.int i2), .val (.int i3), .val (.int i4), .val (.int (4 : Int32)), .val (.int k223), .unset, .unset, .unset, .unset, .unset, .unset, .unset] [(.int k225)])) := c225'
    have c226 : Steps p.tables e below S0 (T225.setTop (mkF m 21 #[.val (.int i0), .val (.int i1), .val (.int i2), .val (.int i3), .val (.int i4), .val (.int (4 : Int32)), .val (.int k223), .val (.int k225), .unset, .unset, .unset, .unset, .unset, .unset] [(.int i3)])) := c225.trans (by
      refine XS.istore X225.here hx rfl (hb hby at_18) rfl (l' := #[.val (.int i0), .val (.int i1), .val (.int i2), .val (.int i3), .val (.int i4), .val (.int (4 : Int32)), .val (.int k223), .val (.int k225), .unset, .unset, .unset, .unset, .unset, .unset]) rfl ?_
      refine XS.iloadN X225.here hx rfl (hb hby at_20) rfl ?_
      exact Steps.refl _)
    obtain ⟨v227, T227, L227, X227, ⟨N227', k227, hB227, rfl, e227⟩, c227'⟩ := own_stat X225 hx hml hZ hown (hw _ (List.mem_of_getElem? (i := 1) rfl)) (hw _ (List.mem_of_getElem? (i := 2) rfl)) (hw _ (List.mem_of_getElem? (i := 3) rfl)) (hw _ (List.mem_of_getElem? (i := 4) rfl)) (by decide) (kc := 0) (ks := 0) (h := h0) (W := 0) (argsL := [(.int i3)]) (rest := []) (own_pay (W := 0) (rmDraw l Z a0 hw i3 h0 O0) hZ (hw _ (List.mem_of_getElem? (i := 4) rfl)) (hw _ (List.mem_of_getElem? (i := 3) rfl)) (by decide) (by decide)) c226 (lenOf pd_17 rfl) rfl (hb hby at_21) e225
    have N227 := Fr.app N225 N227'
    have c227 : Steps p.tables e below S0 (T227.setTop (mkF m 24 #[.val (.int i0), .val (.int i1), .val (.int i2), .val (.int i3), .val (.int i4), .val (.int (4 : Int32)), .val (.int k223), .val (.int k225), .unset, .unset, .unset, .unset, .unset, .unset] [(.int k227)])) := c227'
    have c228 : Steps p.tables e below S0 (T227.setTop (mkF m 28 #[.val (.int i0), .val (.int i1), .val (.int i2), .val (.int i3), .val (.int i4), .val (.int (4 : Int32)), .val (.int k223), .val (.int k225), .val (.int k227), .unset, .unset, .unset, .unset, .unset] [(.int i4)])) := c227.trans (by
      refine XS.istore X227.here hx rfl (hb hby at_24) rfl (l' := #[.val (.int i0), .val (.int i1), .val (.int i2), .val (.int i3), .val (.int i4), .val (.int (4 : Int32)), .val (.int k223), .val (.int k225), .val (.int k227), .unset, .unset, .unset, .unset, .unset]) rfl ?_
      refine XS.iload X227.here hx rfl (hb hby at_26) rfl ?_
      exact Steps.refl _)
    obtain ⟨v229, T229, L229, X229, ⟨N229', k229, hB229, rfl, e229⟩, c229'⟩ := own_stat X227 hx hml hZ hown (hw _ (List.mem_of_getElem? (i := 1) rfl)) (hw _ (List.mem_of_getElem? (i := 2) rfl)) (hw _ (List.mem_of_getElem? (i := 3) rfl)) (hw _ (List.mem_of_getElem? (i := 4) rfl)) (by decide) (kc := 0) (ks := 0) (h := h0) (W := 0) (argsL := [(.int i4)]) (rest := []) (own_pay (W := 0) (rmDraw l Z a0 hw i4 h0 O0) hZ (hw _ (List.mem_of_getElem? (i := 4) rfl)) (hw _ (List.mem_of_getElem? (i := 3) rfl)) (by decide) (by decide)) c228 (lenOf pd_17 rfl) rfl (hb hby at_28) e227
    have N229 := Fr.app N227 N229'
    have c229 : Steps p.tables e below S0 (T229.setTop (mkF m 31 #[.val (.int i0), .val (.int i1), .val (.int i2), .val (.int i3), .val (.int i4), .val (.int (4 : Int32)), .val (.int k223), .val (.int k225), .val (.int k227), .unset, .unset, .unset, .unset, .unset] [(.int k229)])) := c229'
    have c230 : Steps p.tables e below S0 (T229.setTop (mkF m 43 #[.val (.int i0), .val (.int i1), .val (.int i2), .val (.int i3), .val (.int i4), .val (.int (4 : Int32)), .val (.int k223), .val (.int k225), .val (.int k227), .val (.int k229), .unset, .unset, .unset, .unset] [(.int k229), (.int k227), (.int k225), (.int k223), (.int (4 : Int32))])) := c229.trans (by
      refine XS.istore X229.here hx rfl (hb hby at_31) rfl (l' := #[.val (.int i0), .val (.int i1), .val (.int i2), .val (.int i3), .val (.int i4), .val (.int (4 : Int32)), .val (.int k223), .val (.int k225), .val (.int k227), .val (.int k229), .unset, .unset, .unset, .unset]) rfl ?_
      refine XS.iload X229.here hx rfl (hb hby at_33) rfl ?_
      refine XS.iload X229.here hx rfl (hb hby at_35) rfl ?_
      refine XS.iload X229.here hx rfl (hb hby at_37) rfl ?_
      refine XS.iload X229.here hx rfl (hb hby at_39) rfl ?_
      refine XS.iload X229.here hx rfl (hb hby at_41) rfl ?_
      exact Steps.refl _)
    obtain ⟨v231, T231, L231, X231, hS231, hZ231, hown231, R231, ⟨N231', x231, t231, kb231, rfl, K231, lo231, E231, V231, Cd231, Kb231⟩, c231'⟩ := own_wstat X229 hx hml hZ hown hS0 hk0 (hw _ (List.mem_of_getElem? (i := 5) rfl)) (hw _ (List.mem_of_getElem? (i := 6) rfl)) (hw _ (List.mem_of_getElem? (i := 3) rfl)) (hw _ (List.mem_of_getElem? (i := 7) rfl)) (by decide) (kc := 6) (ks := 40) (h := h0) (W := 0) (argsL := [(.int (4 : Int32)), (.int k223), (.int k225), (.int k227), (.int k229)]) (rest := []) (own_wpay (W := 0) (rmMk4 l Z a0 hw hEL k223 k225 k227 k229 z fm h0 O0 hB223 hB225 hB227 hB229 SC hz SF hfm) hZ (hw _ (List.mem_of_getElem? (i := 7) rfl)) (hw _ (List.mem_of_getElem? (i := 3) rfl)) (by decide) (by decide) hEL CR0.1 all0) c230 (lenOf pd_23 rfl) rfl (hb hby at_43) e229
    have N231 := Fr.app N229 N231'
    have CR231 := CR0.trans R231
    have c231 : Steps p.tables e below S0 (T231.setTop (mkF m 46 #[.val (.int i0), .val (.int i1), .val (.int i2), .val (.int i3), .val (.int i4), .val (.int (4 : Int32)), .val (.int k223), .val (.int k225), .val (.int k227), .val (.int k229), .unset, .unset, .unset, .unset] [(.ref x231)])) := c231'
    obtain ⟨T232, h232, k232, X232, e232, E232, A232, st232⟩ := newP X231 hx hZ231 (hw _ (List.mem_of_getElem? (i := 11) rfl)) rfl (g := (mkF m 50 #[.val (.int i0), .val (.int i1), .val (.int i2), .val (.int i3), .val (.int i4), .val (.int (4 : Int32)), .val (.int k223), .val (.int k225), .val (.int k227), .val (.int k229), .val (.ref x231), .unset, .unset, .unset] [(.int (8 : Int32))])) rfl (hb hby at_50) rfl (by decide) (cap := 8) (by decide) (by decide) (by decide) (by decide)
    obtain ⟨b232, g232⟩ : ∃ z, z = T231.heap.size := ⟨_, rfl⟩
    rw [← g232] at A232 st232
    have lo232 : T231.heap.size ≤ b232 := Nat.le_of_eq g232.symm
    have ge232 : Z.heap.size ≤ b232 := Nat.le_trans (O0.keep K231 all0).2.1 lo232
    have R232 := CHr.ext (EL := EL) E232 CR231.1
    have sf232 := Safe.ext E232 CR231.1 (Safe.new lo232)
    have CR232 := CR231.trans R232
    have hk232 := Nat.le_trans (Nat.le_refl _) R232.2.1
    have V232 := Arv.new A232 (by decide)
    have V232a : Arv Z h232 b232 k232 .char (8 : Int32) [(.int (0 : Int32)), (.int (0 : Int32)), (.int (0 : Int32)), (.int (0 : Int32)), (.int (0 : Int32)), (.int (0 : Int32)), (.int (0 : Int32)), (.int (0 : Int32))] (.int (0 : Int32)) := V232.pad (pad_rep [] (.int (0 : Int32)) 8)
    have c233 : Steps p.tables e below S0 (T232.setTop (mkF m 68 #[.val (.int i0), .val (.int i1), .val (.int i2), .val (.int i3), .val (.int i4), .val (.int (4 : Int32)), .val (.int k223), .val (.int k225), .val (.int k227), .val (.int k229), .val (.ref x231), .val (.ref b232), .val (.int (0 : Int32)), .unset] [(.int k223), (.int (0 : Int32)), (.ref b232)])) := c231.trans (by
      refine XS.astore X231.here hx rfl (hb hby at_46) rfl rfl (l' := #[.val (.int i0), .val (.int i1), .val (.int i2), .val (.int i3), .val (.int i4), .val (.int (4 : Int32)), .val (.int k223), .val (.int k225), .val (.int k227), .val (.int k229), .val (.ref x231), .unset, .unset, .unset]) rfl ?_
      refine XS.bipush X231.here hx rfl (hb hby at_48) ?_
      refine st232 _ ?_
      refine XS.astore X232.here hx rfl (hb hby at_52) rfl rfl (l' := #[.val (.int i0), .val (.int i1), .val (.int i2), .val (.int i3), .val (.int i4), .val (.int (4 : Int32)), .val (.int k223), .val (.int k225), .val (.int k227), .val (.int k229), .val (.ref x231), .val (.ref b232), .unset, .unset]) rfl ?_
      refine XS.iconst X232.here hx rfl (hb hby at_54) ?_
      refine XS.istore X232.here hx rfl (hb hby at_55) rfl (l' := #[.val (.int i0), .val (.int i1), .val (.int i2), .val (.int i3), .val (.int i4), .val (.int (4 : Int32)), .val (.int k223), .val (.int k225), .val (.int k227), .val (.int k229), .val (.ref x231), .val (.ref b232), .val (.int (0 : Int32)), .unset]) rfl ?_
      refine XS.iload X232.here hx rfl (hb hby at_57) rfl ?_
      refine XS.ifNo X232.here hx rfl (hb hby at_59) rfl ((if0 _ _).trans (tlt (by decide : (0 : Int32) < (4 : Int32))).2.2.2) ?_
      refine XS.aload X232.here hx rfl (hb hby at_62) rfl rfl ?_
      show Steps p.tables e below (T232.setTop (mkF m 64 #[.val (.int i0), .val (.int i1), .val (.int i2), .val (.int i3), .val (.int i4), .val (.int (4 : Int32)), .val (.int k223), .val (.int k225), .val (.int k227), .val (.int k229), .val (.ref x231), .val (.ref b232), .val (.int (0 : Int32)), .unset] [(.ref b232)])) _
      refine XS.iload X232.here hx rfl (hb hby at_64) rfl ?_
      refine XS.iload X232.here hx rfl (hb hby at_66) rfl ?_
      exact Steps.refl _)
    obtain ⟨v234, T234, L234, X234, ⟨N234', rfl, K234, Vo234⟩, c234'⟩ := own_stat X232 hx hml hZ231 hown231 (hw _ (List.mem_of_getElem? (i := 59) rfl)) (hw _ (List.mem_of_getElem? (i := 60) rfl)) (hw _ (List.mem_of_getElem? (i := 3) rfl)) (hw _ (List.mem_of_getElem? (i := 61) rfl)) (by decide) (kc := 0) (ks := 0) (h := h232) (W := 0) (argsL := [(.ref b232), (.int (0 : Int32)), (.int k223)]) (rest := []) (own_pay (R := room_1) (s := (s.setVm T231.vm)) (W := 0) (rmPut l Z a0 hw [] b232 k232 k223 h232 ((O0.keep K231 all0).ext E232) V232 hB223 (Nat.le_trans (Nat.add_le_add_right (Nat.le_refl 0) 2) (by decide)) ge232) hZ231 (hw _ (List.mem_of_getElem? (i := 61) rfl)) (hw _ (List.mem_of_getElem? (i := 3) rfl)) (by decide) (by decide)) c233 (lenOf pd_26 rfl) rfl (hb hby at_68) e232
    have N234 := Fr.app N231 N234'
    have R234 := CHr.keep K234 (sfS sf232 sf0) CR232.1
    have CR234 := CR232.trans R234
    have hk234 := Nat.le_trans hk232 R234.2.1
    have c234 : Steps p.tables e below S0 (T234.setTop (mkF m 71 #[.val (.int i0), .val (.int i1), .val (.int i2), .val (.int i3), .val (.int i4), .val (.int (4 : Int32)), .val (.int k223), .val (.int k225), .val (.int k227), .val (.int k229), .val (.ref x231), .val (.ref b232), .val (.int (0 : Int32)), .unset] [(.int (Int32.ofNat ([] ++ own_e1 k223).length))])) := c234'
    have c235 : Steps p.tables e below S0 (T234.setTop (mkF m 85 #[.val (.int i0), .val (.int i1), .val (.int i2), .val (.int i3), .val (.int i4), .val (.int (4 : Int32)), .val (.int k223), .val (.int k225), .val (.int k227), .val (.int k229), .val (.ref x231), .val (.ref b232), .val (.int (Int32.ofNat ([] ++ own_e1 k223).length)), .unset] [(.int k225), (.int (Int32.ofNat ([] ++ own_e1 k223).length)), (.ref b232)])) := c234.trans (by
      refine XS.istore X234.here hx rfl (hb hby at_71) rfl (l' := #[.val (.int i0), .val (.int i1), .val (.int i2), .val (.int i3), .val (.int i4), .val (.int (4 : Int32)), .val (.int k223), .val (.int k225), .val (.int k227), .val (.int k229), .val (.ref x231), .val (.ref b232), .val (.int (Int32.ofNat ([] ++ own_e1 k223).length)), .unset]) rfl ?_
      refine XS.iload X234.here hx rfl (hb hby at_73) rfl ?_
      refine XS.iconst X234.here hx rfl (hb hby at_75) ?_
      refine XS.icmpNo X234.here hx rfl (hb hby at_76) rfl (tlt (by decide : (1 : Int32) < (4 : Int32))).2.2.2 ?_
      refine XS.aload X234.here hx rfl (hb hby at_79) rfl rfl ?_
      refine XS.iload X234.here hx rfl (hb hby at_81) rfl ?_
      refine XS.iload X234.here hx rfl (hb hby at_83) rfl ?_
      exact Steps.refl _)
    obtain ⟨v236, T236, L236, X236, ⟨N236', rfl, K236, Vo236⟩, c236'⟩ := own_stat X234 hx hml hZ231 hown231 (hw _ (List.mem_of_getElem? (i := 59) rfl)) (hw _ (List.mem_of_getElem? (i := 60) rfl)) (hw _ (List.mem_of_getElem? (i := 3) rfl)) (hw _ (List.mem_of_getElem? (i := 61) rfl)) (by decide) (kc := 0) (ks := 0) (h := T234.heap) (W := 0) (argsL := [(.ref b232), (.int (Int32.ofNat ([] ++ own_e1 k223).length)), (.int k225)]) (rest := []) (own_pay (R := room_1) (s := (s.setVm T231.vm)) (W := 0) (rmPut l Z a0 hw ([] ++ own_e1 k223) b232 k232 k225 T234.heap (((O0.keep K231 all0).ext E232).keep K234 (allS ge232 all0)) Vo234 hB225 (Nat.le_trans (Nat.add_le_add_right (own_putL (os := []) (k := k223) (j := 0) (Nat.le_refl 0)) 2) (by decide)) ge232) hZ231 (hw _ (List.mem_of_getElem? (i := 61) rfl)) (hw _ (List.mem_of_getElem? (i := 3) rfl)) (by decide) (by decide)) c235 (lenOf pd_26 rfl) rfl (hb hby at_85) rfl
    have N236 := Fr.app N234 N236'
    have R236 := CHr.keep K236 (sfS (R234.safe V232.lt sf232) sf0) CR234.1
    have CR236 := CR234.trans R236
    have hk236 := Nat.le_trans hk234 R236.2.1
    have c236 : Steps p.tables e below S0 (T236.setTop (mkF m 88 #[.val (.int i0), .val (.int i1), .val (.int i2), .val (.int i3), .val (.int i4), .val (.int (4 : Int32)), .val (.int k223), .val (.int k225), .val (.int k227), .val (.int k229), .val (.ref x231), .val (.ref b232), .val (.int (Int32.ofNat ([] ++ own_e1 k223).length)), .unset] [(.int (Int32.ofNat (([] ++ own_e1 k223) ++ own_e1 k225).length))])) := c236'
    have c237 : Steps p.tables e below S0 (T236.setTop (mkF m 102 #[.val (.int i0), .val (.int i1), .val (.int i2), .val (.int i3), .val (.int i4), .val (.int (4 : Int32)), .val (.int k223), .val (.int k225), .val (.int k227), .val (.int k229), .val (.ref x231), .val (.ref b232), .val (.int (Int32.ofNat (([] ++ own_e1 k223) ++ own_e1 k225).length)), .unset] [(.int k227), (.int (Int32.ofNat (([] ++ own_e1 k223) ++ own_e1 k225).length)), (.ref b232)])) := c236.trans (by
      refine XS.istore X236.here hx rfl (hb hby at_88) rfl (l' := #[.val (.int i0), .val (.int i1), .val (.int i2), .val (.int i3), .val (.int i4), .val (.int (4 : Int32)), .val (.int k223), .val (.int k225), .val (.int k227), .val (.int k229), .val (.ref x231), .val (.ref b232), .val (.int (Int32.ofNat (([] ++ own_e1 k223) ++ own_e1 k225).length)), .unset]) rfl ?_
      refine XS.iload X236.here hx rfl (hb hby at_90) rfl ?_
      refine XS.iconst X236.here hx rfl (hb hby at_92) ?_
      refine XS.icmpNo X236.here hx rfl (hb hby at_93) rfl (tlt (by decide : (2 : Int32) < (4 : Int32))).2.2.2 ?_
      refine XS.aload X236.here hx rfl (hb hby at_96) rfl rfl ?_
      refine XS.iload X236.here hx rfl (hb hby at_98) rfl ?_
      refine XS.iload X236.here hx rfl (hb hby at_100) rfl ?_
      exact Steps.refl _)
    obtain ⟨v238, T238, L238, X238, ⟨N238', rfl, K238, Vo238⟩, c238'⟩ := own_stat X236 hx hml hZ231 hown231 (hw _ (List.mem_of_getElem? (i := 59) rfl)) (hw _ (List.mem_of_getElem? (i := 60) rfl)) (hw _ (List.mem_of_getElem? (i := 3) rfl)) (hw _ (List.mem_of_getElem? (i := 61) rfl)) (by decide) (kc := 0) (ks := 0) (h := T236.heap) (W := 0) (argsL := [(.ref b232), (.int (Int32.ofNat (([] ++ own_e1 k223) ++ own_e1 k225).length)), (.int k227)]) (rest := []) (own_pay (R := room_1) (s := (s.setVm T231.vm)) (W := 0) (rmPut l Z a0 hw (([] ++ own_e1 k223) ++ own_e1 k225) b232 k232 k227 T236.heap ((((O0.keep K231 all0).ext E232).keep K234 (allS ge232 all0)).keep K236 (allS ge232 all0)) Vo236 hB227 (Nat.le_trans (Nat.add_le_add_right (own_putL (os := ([] ++ own_e1 k223)) (k := k225) (j := 2) (own_putL (os := []) (k := k223) (j := 0) (Nat.le_refl 0))) 2) (by decide)) ge232) hZ231 (hw _ (List.mem_of_getElem? (i := 61) rfl)) (hw _ (List.mem_of_getElem? (i := 3) rfl)) (by decide) (by decide)) c237 (lenOf pd_26 rfl) rfl (hb hby at_102) rfl
    have N238 := Fr.app N236 N238'
    have R238 := CHr.keep K238 (sfS ((R234.trans R236).safe V232.lt sf232) sf0) CR236.1
    have CR238 := CR236.trans R238
    have hk238 := Nat.le_trans hk236 R238.2.1
    have c238 : Steps p.tables e below S0 (T238.setTop (mkF m 105 #[.val (.int i0), .val (.int i1), .val (.int i2), .val (.int i3), .val (.int i4), .val (.int (4 : Int32)), .val (.int k223), .val (.int k225), .val (.int k227), .val (.int k229), .val (.ref x231), .val (.ref b232), .val (.int (Int32.ofNat (([] ++ own_e1 k223) ++ own_e1 k225).length)), .unset] [(.int (Int32.ofNat ((([] ++ own_e1 k223) ++ own_e1 k225) ++ own_e1 k227).length))])) := c238'
    have c239 : Steps p.tables e below S0 (T238.setTop (mkF m 119 #[.val (.int i0), .val (.int i1), .val (.int i2), .val (.int i3), .val (.int i4), .val (.int (4 : Int32)), .val (.int k223), .val (.int k225), .val (.int k227), .val (.int k229), .val (.ref x231), .val (.ref b232), .val (.int (Int32.ofNat ((([] ++ own_e1 k223) ++ own_e1 k225) ++ own_e1 k227).length)), .unset] [(.int k229), (.int (Int32.ofNat ((([] ++ own_e1 k223) ++ own_e1 k225) ++ own_e1 k227).length)), (.ref b232)])) := c238.trans (by
      refine XS.istore X238.here hx rfl (hb hby at_105) rfl (l' := #[.val (.int i0), .val (.int i1), .val (.int i2), .val (.int i3), .val (.int i4), .val (.int (4 : Int32)), .val (.int k223), .val (.int k225), .val (.int k227), .val (.int k229), .val (.ref x231), .val (.ref b232), .val (.int (Int32.ofNat ((([] ++ own_e1 k223) ++ own_e1 k225) ++ own_e1 k227).length)), .unset]) rfl ?_
      refine XS.iload X238.here hx rfl (hb hby at_107) rfl ?_
      refine XS.iconst X238.here hx rfl (hb hby at_109) ?_
      refine XS.icmpNo X238.here hx rfl (hb hby at_110) rfl (tlt (by decide : (3 : Int32) < (4 : Int32))).2.2.2 ?_
      refine XS.aload X238.here hx rfl (hb hby at_113) rfl rfl ?_
      refine XS.iload X238.here hx rfl (hb hby at_115) rfl ?_
      refine XS.iload X238.here hx rfl (hb hby at_117) rfl ?_
      exact Steps.refl _)
    obtain ⟨v240, T240, L240, X240, ⟨N240', rfl, K240, Vo240⟩, c240'⟩ := own_stat X238 hx hml hZ231 hown231 (hw _ (List.mem_of_getElem? (i := 59) rfl)) (hw _ (List.mem_of_getElem? (i := 60) rfl)) (hw _ (List.mem_of_getElem? (i := 3) rfl)) (hw _ (List.mem_of_getElem? (i := 61) rfl)) (by decide) (kc := 0) (ks := 0) (h := T238.heap) (W := 0) (argsL := [(.ref b232), (.int (Int32.ofNat ((([] ++ own_e1 k223) ++ own_e1 k225) ++ own_e1 k227).length)), (.int k229)]) (rest := []) (own_pay (R := room_1) (s := (s.setVm T231.vm)) (W := 0) (rmPut l Z a0 hw ((([] ++ own_e1 k223) ++ own_e1 k225) ++ own_e1 k227) b232 k232 k229 T238.heap (((((O0.keep K231 all0).ext E232).keep K234 (allS ge232 all0)).keep K236 (allS ge232 all0)).keep K238 (allS ge232 all0)) Vo238 hB229 (Nat.le_trans (Nat.add_le_add_right (own_putL (os := (([] ++ own_e1 k223) ++ own_e1 k225)) (k := k227) (j := 4) (own_putL (os := ([] ++ own_e1 k223)) (k := k225) (j := 2) (own_putL (os := []) (k := k223) (j := 0) (Nat.le_refl 0)))) 2) (by decide)) ge232) hZ231 (hw _ (List.mem_of_getElem? (i := 61) rfl)) (hw _ (List.mem_of_getElem? (i := 3) rfl)) (by decide) (by decide)) c239 (lenOf pd_26 rfl) rfl (hb hby at_119) rfl
    have N240 := Fr.app N238 N240'
    have R240 := CHr.keep K240 (sfS (((R234.trans R236).trans R238).safe V232.lt sf232) sf0) CR238.1
    have CR240 := CR238.trans R240
    have hk240 := Nat.le_trans hk238 R240.2.1
    have c240 : Steps p.tables e below S0 (T240.setTop (mkF m 122 #[.val (.int i0), .val (.int i1), .val (.int i2), .val (.int i3), .val (.int i4), .val (.int (4 : Int32)), .val (.int k223), .val (.int k225), .val (.int k227), .val (.int k229), .val (.ref x231), .val (.ref b232), .val (.int (Int32.ofNat ((([] ++ own_e1 k223) ++ own_e1 k225) ++ own_e1 k227).length)), .unset] [(.int (Int32.ofNat (((([] ++ own_e1 k223) ++ own_e1 k225) ++ own_e1 k227) ++ own_e1 k229).length))])) := c240'
    have c241 : Steps p.tables e below S0 (T240.setTop (mkF m 124 #[.val (.int i0), .val (.int i1), .val (.int i2), .val (.int i3), .val (.int i4), .val (.int (4 : Int32)), .val (.int k223), .val (.int k225), .val (.int k227), .val (.int k229), .val (.ref x231), .val (.ref b232), .val (.int (Int32.ofNat (((([] ++ own_e1 k223) ++ own_e1 k225) ++ own_e1 k227) ++ own_e1 k229).length)), .unset] [])) := c240.trans (by
      refine XS.istore X240.here hx rfl (hb hby at_122) rfl (l' := #[.val (.int i0), .val (.int i1), .val (.int i2), .val (.int i3), .val (.int i4), .val (.int (4 : Int32)), .val (.int k223), .val (.int k225), .val (.int k227), .val (.int k229), .val (.ref x231), .val (.ref b232), .val (.int (Int32.ofNat (((([] ++ own_e1 k223) ++ own_e1 k225) ++ own_e1 k227) ++ own_e1 k229).length)), .unset]) rfl ?_
      exact Steps.refl _)
    have hes : (((([] ++ own_e1 k223) ++ own_e1 k225) ++ own_e1 k227) ++ own_e1 k229) = (own_esc [k223, k225, k227, k229]) := by simp [own_esc]
    have Vs242 : Arv Z T240.heap b232 k232 .char (8 : Int32) ((own_esc [k223, k225, k227, k229]).map Value.int) (.int (0 : Int32)) := by rw [← hes]; exact Vo240
    have hel : (own_esc [k223, k225, k227, k229]).length ≤ 8 := own_escL [k223, k225, k227, k229]
    have hBs : ∀ c ∈ [k223, k225, k227, k229], own_B c := (own_cons hB223 (own_cons hB225 (own_cons hB227 (own_cons hB229 own_nil))))
    have eq243 : (Int32.ofNat (((([] ++ own_e1 k223) ++ own_e1 k225) ++ own_e1 k227) ++ own_e1 k229).length) = (Int32.ofNat ((own_esc [k223, k225, k227, k229]) : List Int32).length) := by rw [hes]
    have c243 : Steps p.tables e below S0 (T240.setTop (mkF m 124 #[.val (.int i0), .val (.int i1), .val (.int i2), .val (.int i3), .val (.int i4), .val (.int (4 : Int32)), .val (.int k223), .val (.int k225), .val (.int k227), .val (.int k229), .val (.ref x231), .val (.ref b232), .val (.int (Int32.ofNat ((own_esc [k223, k225, k227, k229]) : List Int32).length)), .unset] [])) := by have q := c241; rw [eq243] at q; exact q
    have c244 : Steps p.tables e below S0 (T240.setTop (mkF m 126 #[.val (.int i0), .val (.int i1), .val (.int i2), .val (.int i3), .val (.int i4), .val (.int (4 : Int32)), .val (.int k223), .val (.int k225), .val (.int k227), .val (.int k229), .val (.ref x231), .val (.ref b232), .val (.int (Int32.ofNat ((own_esc [k223, k225, k227, k229]) : List Int32).length)), .unset] [(.ref x231)])) := c243.trans (by
      refine XS.aload X240.here hx rfl (hb hby at_124) rfl rfl ?_
      exact Steps.refl _)
    obtain ⟨v245, T245, L245, X245, ⟨N245', r245, t245, kb245, rfl, K245, E245, V245, Cd245, Kb245, hd245⟩, c245'⟩ := own_stat X240 hx hml hZ231 hown231 (hw _ (List.mem_of_getElem? (i := 30) rfl)) (hw _ (List.mem_of_getElem? (i := 31) rfl)) (hw _ (List.mem_of_getElem? (i := 32) rfl)) (hw _ (List.mem_of_getElem? (i := 33) rfl)) (by decide) (kc := 12) (ks := 120) (h := T240.heap) (W := 0) (argsL := [(.ref x231)]) (rest := []) (own_pay (W := 0) (rmEsc l Z a0 hw [k223, k225, k227, k229] x231 t231 kb231 z fm fo T240.heap ((((((O0.keep K231 all0).ext E232).keep K234 (allS ge232 all0)).keep K236 (allS ge232 all0)).keep K238 (allS ge232 all0)).keep K240 (allS ge232 all0)) (((((E231.ext E232).keep K234).keep K236).keep K238).keep K240) (((((V231.ext E232).keep K234 (ninS (Nat.ne_of_lt (Nat.lt_of_lt_of_le E231.lt lo232)) nin0)).keep K236 (ninS (Nat.ne_of_lt (Nat.lt_of_lt_of_le E231.lt lo232)) nin0)).keep K238 (ninS (Nat.ne_of_lt (Nat.lt_of_lt_of_le E231.lt lo232)) nin0)).keep K240 (ninS (Nat.ne_of_lt (Nat.lt_of_lt_of_le E231.lt lo232)) nin0)) (((((Cd231.ext E232).keep K234 (ninS (Nat.ne_of_lt (Nat.lt_of_lt_of_le E231.lt lo232)) nin0)).keep K236 (ninS (Nat.ne_of_lt (Nat.lt_of_lt_of_le E231.lt lo232)) nin0)).keep K238 (ninS (Nat.ne_of_lt (Nat.lt_of_lt_of_le E231.lt lo232)) nin0)).keep K240 (ninS (Nat.ne_of_lt (Nat.lt_of_lt_of_le E231.lt lo232)) nin0)) (((((Kb231.ext E232).keep K234 (ninS (Nat.ne_of_lt (Nat.lt_of_lt_of_le Kb231.lt lo232)) nin0)).keep K236 (ninS (Nat.ne_of_lt (Nat.lt_of_lt_of_le Kb231.lt lo232)) nin0)).keep K238 (ninS (Nat.ne_of_lt (Nat.lt_of_lt_of_le Kb231.lt lo232)) nin0)).keep K240 (ninS (Nat.ne_of_lt (Nat.lt_of_lt_of_le Kb231.lt lo232)) nin0)) (by show 4 ≤ 4; decide) hBs SC hz SF hfm SI hfo) hZ231 (hw _ (List.mem_of_getElem? (i := 33) rfl)) (hw _ (List.mem_of_getElem? (i := 32) rfl)) (by decide) (by decide)) c244 (lenOf pd_24 rfl) rfl (hb hby at_126) rfl
    have N245 := Fr.app N240 N245'
    have R245 := CHr.keep K245 sf0 CR240.1
    have CR245 := CR240.trans R245
    have hk245 := Nat.le_trans hk240 R245.2.1
    have c245 : Steps p.tables e below S0 (T245.setTop (mkF m 129 #[.val (.int i0), .val (.int i1), .val (.int i2), .val (.int i3), .val (.int i4), .val (.int (4 : Int32)), .val (.int k223), .val (.int k225), .val (.int k227), .val (.int k229), .val (.ref x231), .val (.ref b232), .val (.int (Int32.ofNat ((own_esc [k223, k225, k227, k229]) : List Int32).length)), .unset] [(.ref r245)])) := c245'
    have c246 : Steps p.tables e below S0 (T245.setTop (mkF m 133 #[.val (.int i0), .val (.int i1), .val (.int i2), .val (.int i3), .val (.int i4), .val (.int (4 : Int32)), .val (.int k223), .val (.int k225), .val (.int k227), .val (.int k229), .val (.ref x231), .val (.ref b232), .val (.int (Int32.ofNat ((own_esc [k223, k225, k227, k229]) : List Int32).length)), .val (.ref r245)] [(.ref r245)])) := c245.trans (by
      refine XS.astore X245.here hx rfl (hb hby at_129) rfl rfl (l' := #[.val (.int i0), .val (.int i1), .val (.int i2), .val (.int i3), .val (.int i4), .val (.int (4 : Int32)), .val (.int k223), .val (.int k225), .val (.int k227), .val (.int k229), .val (.ref x231), .val (.ref b232), .val (.int (Int32.ofNat ((own_esc [k223, k225, k227, k229]) : List Int32).length)), .val (.ref r245)]) rfl ?_
      refine XS.aload X245.here hx rfl (hb hby at_131) rfl rfl ?_
      exact Steps.refl _)
    obtain ⟨v247, T247, L247, X247, ⟨rfl, rfl, e247⟩, c247'⟩ := own_virt X245 hx hml hZ231 hown231 (hw _ (List.mem_of_getElem? (i := 45) rfl)) (hw _ (List.mem_of_getElem? (i := 35) rfl)) (hw _ (List.mem_of_getElem? (i := 37) rfl)) (hw _ (List.mem_of_getElem? (i := 36) rfl)) (hw _ (List.mem_of_getElem? (i := 37) rfl)) (by decide) (Q := fun v h' L => v = some (.int (Int32.ofNat ((own_esc [k223, k225, k227, k229]) : List Int32).length)) ∧ L = [] ∧ h' = T245.heap) (kc := 0) (ks := 0) (h := T245.heap) (W := 0) (b := r245) (argsL := []) (rest := []) (StrChars.Road.lenW (s := (s.setVm T231.vm)) (R := room_1) (W := 0) hZ231 (own_wl hw) (kI := 4) (hw _ (List.mem_of_getElem? (i := 9) rfl)) (cs := (own_esc [k223, k225, k227, k229])) E245 V245 Cd245 Kb245 (StrChars.Road.codOf (n := ((own_esc [k223, k225, k227, k229]) : List Int32).length) rfl (fun c hc => ((own_escB hBs) c hc).rng.2)) (fun c hc => ((own_escB hBs) c hc).rng2) (SC.ext (((((((O0.keep K231 all0).ext E232).keep K234 (allS ge232 all0)).keep K236 (allS ge232 all0)).keep K238 (allS ge232 all0)).keep K240 (allS ge232 all0)).keep K245 all0).2) hz (Nat.le_trans hel (by decide)) (by decide) (by decide)) E245 c246 (lenOf pd_9 rfl) rfl (hb hby at_133) rfl
    have N247 := Fr.app N245 (Fr.nil _)
    have c247 : Steps p.tables e below S0 (T247.setTop (mkF m 136 #[.val (.int i0), .val (.int i1), .val (.int i2), .val (.int i3), .val (.int i4), .val (.int (4 : Int32)), .val (.int k223), .val (.int k225), .val (.int k227), .val (.int k229), .val (.ref x231), .val (.ref b232), .val (.int (Int32.ofNat ((own_esc [k223, k225, k227, k229]) : List Int32).length)), .val (.ref r245)] [(.int (Int32.ofNat ((own_esc [k223, k225, k227, k229]) : List Int32).length))])) := c247'
    have c248 : Steps p.tables e below S0 (T247.setTop (mkF m 147 #[.val (.int i0), .val (.int i1), .val (.int i2), .val (.int i3), .val (.int i4), .val (.int (4 : Int32)), .val (.int k223), .val (.int k225), .val (.int k227), .val (.int k229), .val (.ref x231), .val (.ref b232), .val (.int (Int32.ofNat ((own_esc [k223, k225, k227, k229]) : List Int32).length)), .val (.ref r245)] [(.int (4 : Int32)), (.int (Int32.ofNat ((own_esc [k223, k225, k227, k229]) : List Int32).length))])) := c247.trans (by
      refine XS.iload X247.here hx rfl (hb hby at_136) rfl ?_
      refine XS.icmpYes X247.here hx rfl (pc0 := 138) (pc' := 143) rfl (hb hby at_138) rfl (teq (rfl : (Int32.ofNat ((own_esc [k223, k225, k227, k229]) : List Int32).length) = (Int32.ofNat ((own_esc [k223, k225, k227, k229]) : List Int32).length))).1 (by decide) (by decide) ?_
      refine XS.iload X247.here hx rfl (hb hby at_143) rfl ?_
      refine XS.iload X247.here hx rfl (hb hby at_145) rfl ?_
      exact Steps.refl _)
    rcases hd245 with ⟨hr245, he245⟩ | hg245
    · skip
      have c249 : Steps p.tables e below S0 (T247.setTop (mkF m 166 #[.val (.int i0), .val (.int i1), .val (.int i2), .val (.int i3), .val (.int i4), .val (.int (4 : Int32)), .val (.int k223), .val (.int k225), .val (.int k227), .val (.int k229), .val (.ref x231), .val (.ref b232), .val (.int (Int32.ofNat ((own_esc [k223, k225, k227, k229]) : List Int32).length)), .val (.ref r245)] [(.int (0 : Int32)), (.int (Int32.ofNat ((own_esc [k223, k225, k227, k229]) : List Int32).length)), (.ref b232), (.ref r245)])) := c248.trans (by
        refine XS.icmpNo X247.here hx rfl (hb hby at_147) rfl (teq (by rw [he245]; rfl)).2 ?_
        refine XS.aload X247.here hx rfl (hb hby at_150) rfl rfl ?_
        refine XS.aload X247.here hx rfl (hb hby at_152) rfl rfl ?_
        refine Jvm.RoadKit.acmp (g := (mkF m 154 #[.val (.int i0), .val (.int i1), .val (.int i2), .val (.int i3), .val (.int i4), .val (.int (4 : Int32)), .val (.int k223), .val (.int k225), .val (.int k227), .val (.int k229), .val (.ref x231), .val (.ref b232), .val (.int (Int32.ofNat ((own_esc [k223, k225, k227, k229]) : List Int32).length)), .val (.ref r245)] [(.ref x231), (.ref r245)])) X247 hx rfl rfl rfl (pc0 := 154) (pc' := 159) (same := true) rfl (hb hby at_154) rfl (decide_eq_true (congrArg Value.ref hr245)) (by decide) (by decide) ?_
        refine XS.aload X247.here hx rfl (hb hby at_159) rfl rfl ?_
        refine XS.aload X247.here hx rfl (hb hby at_161) rfl rfl ?_
        refine XS.iload X247.here hx rfl (hb hby at_163) rfl ?_
        refine XS.iconst X247.here hx rfl (hb hby at_165) ?_
        exact Steps.refl _)
      obtain ⟨v250, T250, L250, X250, ⟨N250', rfl, e250⟩, c250'⟩ := own_stat X247 hx hml hZ231 hown231 (hw _ (List.mem_of_getElem? (i := 46) rfl)) (hw _ (List.mem_of_getElem? (i := 47) rfl)) (hw _ (List.mem_of_getElem? (i := 3) rfl)) (hw _ (List.mem_of_getElem? (i := 48) rfl)) (by decide) (kc := 0) (ks := 0) (h := T245.heap) (W := 0) (argsL := [(.ref r245), (.ref b232), (.int (Int32.ofNat ((own_esc [k223, k225, k227, k229]) : List Int32).length)), (.int (0 : Int32))]) (rest := []) (own_pay (W := 0) (rmAt l Z a0 hw (own_esc [k223, k225, k227, k229]) r245 t245 kb245 b232 k232 0 z fm T245.heap (((((((O0.keep K231 all0).ext E232).keep K234 (allS ge232 all0)).keep K236 (allS ge232 all0)).keep K238 (allS ge232 all0)).keep K240 (allS ge232 all0)).keep K245 all0) E245 V245 Cd245 Kb245 (Vs242.keep K245 nin0) (own_escB hBs) (by decide) (Nat.le_trans hel (by decide)) SC hz SF hfm) hZ231 (hw _ (List.mem_of_getElem? (i := 48) rfl)) (hw _ (List.mem_of_getElem? (i := 3) rfl)) (by decide) (by decide)) c249 (lenOf pd_25 rfl) rfl (hb hby at_166) e247
      have N250 := Fr.app N247 N250'
      have c250 : Steps p.tables e below S0 (T250.setTop (mkF m 169 #[.val (.int i0), .val (.int i1), .val (.int i2), .val (.int i3), .val (.int i4), .val (.int (4 : Int32)), .val (.int k223), .val (.int k225), .val (.int k227), .val (.int k229), .val (.ref x231), .val (.ref b232), .val (.int (Int32.ofNat ((own_esc [k223, k225, k227, k229]) : List Int32).length)), .val (.ref r245)] [(.int (1 : Int32))])) := c250'
      have c251 : Steps p.tables e below S0 (T250.setTop (mkF m 179 #[.val (.int i0), .val (.int i1), .val (.int i2), .val (.int i3), .val (.int i4), .val (.int (4 : Int32)), .val (.int k223), .val (.int k225), .val (.int k227), .val (.int k229), .val (.ref x231), .val (.ref b232), .val (.int (Int32.ofNat ((own_esc [k223, k225, k227, k229]) : List Int32).length)), .val (.ref r245)] [(.int (1 : Int32)), (.int (Int32.ofNat ((own_esc [k223, k225, k227, k229]) : List Int32).length)), (.ref b232), (.ref r245)])) := c250.trans (by
        refine XS.ifNo X250.here hx rfl (hb hby at_169) rfl ((if0 _ _).trans (feq (by decide : ¬ ((1 : Int32) = (0 : Int32)))).1) ?_
        refine XS.aload X250.here hx rfl (hb hby at_172) rfl rfl ?_
        refine XS.aload X250.here hx rfl (hb hby at_174) rfl rfl ?_
        refine XS.iload X250.here hx rfl (hb hby at_176) rfl ?_
        refine XS.iconst X250.here hx rfl (hb hby at_178) ?_
        exact Steps.refl _)
      obtain ⟨v252, T252, L252, X252, ⟨N252', rfl, e252⟩, c252'⟩ := own_stat X250 hx hml hZ231 hown231 (hw _ (List.mem_of_getElem? (i := 46) rfl)) (hw _ (List.mem_of_getElem? (i := 47) rfl)) (hw _ (List.mem_of_getElem? (i := 3) rfl)) (hw _ (List.mem_of_getElem? (i := 48) rfl)) (by decide) (kc := 0) (ks := 0) (h := T245.heap) (W := 0) (argsL := [(.ref r245), (.ref b232), (.int (Int32.ofNat ((own_esc [k223, k225, k227, k229]) : List Int32).length)), (.int (1 : Int32))]) (rest := []) (own_pay (W := 0) (rmAt l Z a0 hw (own_esc [k223, k225, k227, k229]) r245 t245 kb245 b232 k232 1 z fm T245.heap (((((((O0.keep K231 all0).ext E232).keep K234 (allS ge232 all0)).keep K236 (allS ge232 all0)).keep K238 (allS ge232 all0)).keep K240 (allS ge232 all0)).keep K245 all0) E245 V245 Cd245 Kb245 (Vs242.keep K245 nin0) (own_escB hBs) (by decide) (Nat.le_trans hel (by decide)) SC hz SF hfm) hZ231 (hw _ (List.mem_of_getElem? (i := 48) rfl)) (hw _ (List.mem_of_getElem? (i := 3) rfl)) (by decide) (by decide)) c251 (lenOf pd_25 rfl) rfl (hb hby at_179) e250
      have N252 := Fr.app N250 N252'
      have c252 : Steps p.tables e below S0 (T252.setTop (mkF m 182 #[.val (.int i0), .val (.int i1), .val (.int i2), .val (.int i3), .val (.int i4), .val (.int (4 : Int32)), .val (.int k223), .val (.int k225), .val (.int k227), .val (.int k229), .val (.ref x231), .val (.ref b232), .val (.int (Int32.ofNat ((own_esc [k223, k225, k227, k229]) : List Int32).length)), .val (.ref r245)] [(.int (1 : Int32))])) := c252'
      have c253 : Steps p.tables e below S0 (T252.setTop (mkF m 192 #[.val (.int i0), .val (.int i1), .val (.int i2), .val (.int i3), .val (.int i4), .val (.int (4 : Int32)), .val (.int k223), .val (.int k225), .val (.int k227), .val (.int k229), .val (.ref x231), .val (.ref b232), .val (.int (Int32.ofNat ((own_esc [k223, k225, k227, k229]) : List Int32).length)), .val (.ref r245)] [(.int (2 : Int32)), (.int (Int32.ofNat ((own_esc [k223, k225, k227, k229]) : List Int32).length)), (.ref b232), (.ref r245)])) := c252.trans (by
        refine XS.ifNo X252.here hx rfl (hb hby at_182) rfl ((if0 _ _).trans (feq (by decide : ¬ ((1 : Int32) = (0 : Int32)))).1) ?_
        refine XS.aload X252.here hx rfl (hb hby at_185) rfl rfl ?_
        refine XS.aload X252.here hx rfl (hb hby at_187) rfl rfl ?_
        refine XS.iload X252.here hx rfl (hb hby at_189) rfl ?_
        refine XS.iconst X252.here hx rfl (hb hby at_191) ?_
        exact Steps.refl _)
      obtain ⟨v254, T254, L254, X254, ⟨N254', rfl, e254⟩, c254'⟩ := own_stat X252 hx hml hZ231 hown231 (hw _ (List.mem_of_getElem? (i := 46) rfl)) (hw _ (List.mem_of_getElem? (i := 47) rfl)) (hw _ (List.mem_of_getElem? (i := 3) rfl)) (hw _ (List.mem_of_getElem? (i := 48) rfl)) (by decide) (kc := 0) (ks := 0) (h := T245.heap) (W := 0) (argsL := [(.ref r245), (.ref b232), (.int (Int32.ofNat ((own_esc [k223, k225, k227, k229]) : List Int32).length)), (.int (2 : Int32))]) (rest := []) (own_pay (W := 0) (rmAt l Z a0 hw (own_esc [k223, k225, k227, k229]) r245 t245 kb245 b232 k232 2 z fm T245.heap (((((((O0.keep K231 all0).ext E232).keep K234 (allS ge232 all0)).keep K236 (allS ge232 all0)).keep K238 (allS ge232 all0)).keep K240 (allS ge232 all0)).keep K245 all0) E245 V245 Cd245 Kb245 (Vs242.keep K245 nin0) (own_escB hBs) (by decide) (Nat.le_trans hel (by decide)) SC hz SF hfm) hZ231 (hw _ (List.mem_of_getElem? (i := 48) rfl)) (hw _ (List.mem_of_getElem? (i := 3) rfl)) (by decide) (by decide)) c253 (lenOf pd_25 rfl) rfl (hb hby at_192) e252
      have N254 := Fr.app N252 N254'
      have c254 : Steps p.tables e below S0 (T254.setTop (mkF m 195 #[.val (.int i0), .val (.int i1), .val (.int i2), .val (.int i3), .val (.int i4), .val (.int (4 : Int32)), .val (.int k223), .val (.int k225), .val (.int k227), .val (.int k229), .val (.ref x231), .val (.ref b232), .val (.int (Int32.ofNat ((own_esc [k223, k225, k227, k229]) : List Int32).length)), .val (.ref r245)] [(.int (1 : Int32))])) := c254'
      have c255 : Steps p.tables e below S0 (T254.setTop (mkF m 205 #[.val (.int i0), .val (.int i1), .val (.int i2), .val (.int i3), .val (.int i4), .val (.int (4 : Int32)), .val (.int k223), .val (.int k225), .val (.int k227), .val (.int k229), .val (.ref x231), .val (.ref b232), .val (.int (Int32.ofNat ((own_esc [k223, k225, k227, k229]) : List Int32).length)), .val (.ref r245)] [(.int (3 : Int32)), (.int (Int32.ofNat ((own_esc [k223, k225, k227, k229]) : List Int32).length)), (.ref b232), (.ref r245)])) := c254.trans (by
        refine XS.ifNo X254.here hx rfl (hb hby at_195) rfl ((if0 _ _).trans (feq (by decide : ¬ ((1 : Int32) = (0 : Int32)))).1) ?_
        refine XS.aload X254.here hx rfl (hb hby at_198) rfl rfl ?_
        refine XS.aload X254.here hx rfl (hb hby at_200) rfl rfl ?_
        refine XS.iload X254.here hx rfl (hb hby at_202) rfl ?_
        refine XS.iconst X254.here hx rfl (hb hby at_204) ?_
        exact Steps.refl _)
      obtain ⟨v256, T256, L256, X256, ⟨N256', rfl, e256⟩, c256'⟩ := own_stat X254 hx hml hZ231 hown231 (hw _ (List.mem_of_getElem? (i := 46) rfl)) (hw _ (List.mem_of_getElem? (i := 47) rfl)) (hw _ (List.mem_of_getElem? (i := 3) rfl)) (hw _ (List.mem_of_getElem? (i := 48) rfl)) (by decide) (kc := 0) (ks := 0) (h := T245.heap) (W := 0) (argsL := [(.ref r245), (.ref b232), (.int (Int32.ofNat ((own_esc [k223, k225, k227, k229]) : List Int32).length)), (.int (3 : Int32))]) (rest := []) (own_pay (W := 0) (rmAt l Z a0 hw (own_esc [k223, k225, k227, k229]) r245 t245 kb245 b232 k232 3 z fm T245.heap (((((((O0.keep K231 all0).ext E232).keep K234 (allS ge232 all0)).keep K236 (allS ge232 all0)).keep K238 (allS ge232 all0)).keep K240 (allS ge232 all0)).keep K245 all0) E245 V245 Cd245 Kb245 (Vs242.keep K245 nin0) (own_escB hBs) (by decide) (Nat.le_trans hel (by decide)) SC hz SF hfm) hZ231 (hw _ (List.mem_of_getElem? (i := 48) rfl)) (hw _ (List.mem_of_getElem? (i := 3) rfl)) (by decide) (by decide)) c255 (lenOf pd_25 rfl) rfl (hb hby at_205) e254
      have N256 := Fr.app N254 N256'
      have c256 : Steps p.tables e below S0 (T256.setTop (mkF m 208 #[.val (.int i0), .val (.int i1), .val (.int i2), .val (.int i3), .val (.int i4), .val (.int (4 : Int32)), .val (.int k223), .val (.int k225), .val (.int k227), .val (.int k229), .val (.ref x231), .val (.ref b232), .val (.int (Int32.ofNat ((own_esc [k223, k225, k227, k229]) : List Int32).length)), .val (.ref r245)] [(.int (1 : Int32))])) := c256'
      have c257 : Steps p.tables e below S0 (T256.setTop (mkF m 218 #[.val (.int i0), .val (.int i1), .val (.int i2), .val (.int i3), .val (.int i4), .val (.int (4 : Int32)), .val (.int k223), .val (.int k225), .val (.int k227), .val (.int k229), .val (.ref x231), .val (.ref b232), .val (.int (Int32.ofNat ((own_esc [k223, k225, k227, k229]) : List Int32).length)), .val (.ref r245)] [(.int (4 : Int32)), (.int (Int32.ofNat ((own_esc [k223, k225, k227, k229]) : List Int32).length)), (.ref b232), (.ref r245)])) := c256.trans (by
        refine XS.ifNo X256.here hx rfl (hb hby at_208) rfl ((if0 _ _).trans (feq (by decide : ¬ ((1 : Int32) = (0 : Int32)))).1) ?_
        refine XS.aload X256.here hx rfl (hb hby at_211) rfl rfl ?_
        refine XS.aload X256.here hx rfl (hb hby at_213) rfl rfl ?_
        refine XS.iload X256.here hx rfl (hb hby at_215) rfl ?_
        refine XS.iconst X256.here hx rfl (hb hby at_217) ?_
        exact Steps.refl _)
      obtain ⟨v258, T258, L258, X258, ⟨N258', rfl, e258⟩, c258'⟩ := own_stat X256 hx hml hZ231 hown231 (hw _ (List.mem_of_getElem? (i := 46) rfl)) (hw _ (List.mem_of_getElem? (i := 47) rfl)) (hw _ (List.mem_of_getElem? (i := 3) rfl)) (hw _ (List.mem_of_getElem? (i := 48) rfl)) (by decide) (kc := 0) (ks := 0) (h := T245.heap) (W := 0) (argsL := [(.ref r245), (.ref b232), (.int (Int32.ofNat ((own_esc [k223, k225, k227, k229]) : List Int32).length)), (.int (4 : Int32))]) (rest := []) (own_pay (W := 0) (rmAt l Z a0 hw (own_esc [k223, k225, k227, k229]) r245 t245 kb245 b232 k232 4 z fm T245.heap (((((((O0.keep K231 all0).ext E232).keep K234 (allS ge232 all0)).keep K236 (allS ge232 all0)).keep K238 (allS ge232 all0)).keep K240 (allS ge232 all0)).keep K245 all0) E245 V245 Cd245 Kb245 (Vs242.keep K245 nin0) (own_escB hBs) (by decide) (Nat.le_trans hel (by decide)) SC hz SF hfm) hZ231 (hw _ (List.mem_of_getElem? (i := 48) rfl)) (hw _ (List.mem_of_getElem? (i := 3) rfl)) (by decide) (by decide)) c257 (lenOf pd_25 rfl) rfl (hb hby at_218) e256
      have N258 := Fr.app N256 N258'
      have c258 : Steps p.tables e below S0 (T258.setTop (mkF m 221 #[.val (.int i0), .val (.int i1), .val (.int i2), .val (.int i3), .val (.int i4), .val (.int (4 : Int32)), .val (.int k223), .val (.int k225), .val (.int k227), .val (.int k229), .val (.ref x231), .val (.ref b232), .val (.int (Int32.ofNat ((own_esc [k223, k225, k227, k229]) : List Int32).length)), .val (.ref r245)] [(.int (1 : Int32))])) := c258'
      have c259 : Steps p.tables e below S0 (T258.setTop (mkF m 231 #[.val (.int i0), .val (.int i1), .val (.int i2), .val (.int i3), .val (.int i4), .val (.int (4 : Int32)), .val (.int k223), .val (.int k225), .val (.int k227), .val (.int k229), .val (.ref x231), .val (.ref b232), .val (.int (Int32.ofNat ((own_esc [k223, k225, k227, k229]) : List Int32).length)), .val (.ref r245)] [(.int (5 : Int32)), (.int (Int32.ofNat ((own_esc [k223, k225, k227, k229]) : List Int32).length)), (.ref b232), (.ref r245)])) := c258.trans (by
        refine XS.ifNo X258.here hx rfl (hb hby at_221) rfl ((if0 _ _).trans (feq (by decide : ¬ ((1 : Int32) = (0 : Int32)))).1) ?_
        refine XS.aload X258.here hx rfl (hb hby at_224) rfl rfl ?_
        refine XS.aload X258.here hx rfl (hb hby at_226) rfl rfl ?_
        refine XS.iload X258.here hx rfl (hb hby at_228) rfl ?_
        refine XS.iconst X258.here hx rfl (hb hby at_230) ?_
        exact Steps.refl _)
      obtain ⟨v260, T260, L260, X260, ⟨N260', rfl, e260⟩, c260'⟩ := own_stat X258 hx hml hZ231 hown231 (hw _ (List.mem_of_getElem? (i := 46) rfl)) (hw _ (List.mem_of_getElem? (i := 47) rfl)) (hw _ (List.mem_of_getElem? (i := 3) rfl)) (hw _ (List.mem_of_getElem? (i := 48) rfl)) (by decide) (kc := 0) (ks := 0) (h := T245.heap) (W := 0) (argsL := [(.ref r245), (.ref b232), (.int (Int32.ofNat ((own_esc [k223, k225, k227, k229]) : List Int32).length)), (.int (5 : Int32))]) (rest := []) (own_pay (W := 0) (rmAt l Z a0 hw (own_esc [k223, k225, k227, k229]) r245 t245 kb245 b232 k232 5 z fm T245.heap (((((((O0.keep K231 all0).ext E232).keep K234 (allS ge232 all0)).keep K236 (allS ge232 all0)).keep K238 (allS ge232 all0)).keep K240 (allS ge232 all0)).keep K245 all0) E245 V245 Cd245 Kb245 (Vs242.keep K245 nin0) (own_escB hBs) (by decide) (Nat.le_trans hel (by decide)) SC hz SF hfm) hZ231 (hw _ (List.mem_of_getElem? (i := 48) rfl)) (hw _ (List.mem_of_getElem? (i := 3) rfl)) (by decide) (by decide)) c259 (lenOf pd_25 rfl) rfl (hb hby at_231) e258
      have N260 := Fr.app N258 N260'
      have c260 : Steps p.tables e below S0 (T260.setTop (mkF m 234 #[.val (.int i0), .val (.int i1), .val (.int i2), .val (.int i3), .val (.int i4), .val (.int (4 : Int32)), .val (.int k223), .val (.int k225), .val (.int k227), .val (.int k229), .val (.ref x231), .val (.ref b232), .val (.int (Int32.ofNat ((own_esc [k223, k225, k227, k229]) : List Int32).length)), .val (.ref r245)] [(.int (1 : Int32))])) := c260'
      have c261 : Steps p.tables e below S0 (T260.setTop (mkF m 245 #[.val (.int i0), .val (.int i1), .val (.int i2), .val (.int i3), .val (.int i4), .val (.int (4 : Int32)), .val (.int k223), .val (.int k225), .val (.int k227), .val (.int k229), .val (.ref x231), .val (.ref b232), .val (.int (Int32.ofNat ((own_esc [k223, k225, k227, k229]) : List Int32).length)), .val (.ref r245)] [(.int (6 : Int32)), (.int (Int32.ofNat ((own_esc [k223, k225, k227, k229]) : List Int32).length)), (.ref b232), (.ref r245)])) := c260.trans (by
        refine XS.ifNo X260.here hx rfl (hb hby at_234) rfl ((if0 _ _).trans (feq (by decide : ¬ ((1 : Int32) = (0 : Int32)))).1) ?_
        refine XS.aload X260.here hx rfl (hb hby at_237) rfl rfl ?_
        refine XS.aload X260.here hx rfl (hb hby at_239) rfl rfl ?_
        refine XS.iload X260.here hx rfl (hb hby at_241) rfl ?_
        refine XS.bipush X260.here hx rfl (hb hby at_243) ?_
        exact Steps.refl _)
      obtain ⟨v262, T262, L262, X262, ⟨N262', rfl, e262⟩, c262'⟩ := own_stat X260 hx hml hZ231 hown231 (hw _ (List.mem_of_getElem? (i := 46) rfl)) (hw _ (List.mem_of_getElem? (i := 47) rfl)) (hw _ (List.mem_of_getElem? (i := 3) rfl)) (hw _ (List.mem_of_getElem? (i := 48) rfl)) (by decide) (kc := 0) (ks := 0) (h := T245.heap) (W := 0) (argsL := [(.ref r245), (.ref b232), (.int (Int32.ofNat ((own_esc [k223, k225, k227, k229]) : List Int32).length)), (.int (6 : Int32))]) (rest := []) (own_pay (W := 0) (rmAt l Z a0 hw (own_esc [k223, k225, k227, k229]) r245 t245 kb245 b232 k232 6 z fm T245.heap (((((((O0.keep K231 all0).ext E232).keep K234 (allS ge232 all0)).keep K236 (allS ge232 all0)).keep K238 (allS ge232 all0)).keep K240 (allS ge232 all0)).keep K245 all0) E245 V245 Cd245 Kb245 (Vs242.keep K245 nin0) (own_escB hBs) (by decide) (Nat.le_trans hel (by decide)) SC hz SF hfm) hZ231 (hw _ (List.mem_of_getElem? (i := 48) rfl)) (hw _ (List.mem_of_getElem? (i := 3) rfl)) (by decide) (by decide)) c261 (lenOf pd_25 rfl) rfl (hb hby at_245) e260
      have N262 := Fr.app N260 N262'
      have c262 : Steps p.tables e below S0 (T262.setTop (mkF m 248 #[.val (.int i0), .val (.int i1), .val (.int i2), .val (.int i3), .val (.int i4), .val (.int (4 : Int32)), .val (.int k223), .val (.int k225), .val (.int k227), .val (.int k229), .val (.ref x231), .val (.ref b232), .val (.int (Int32.ofNat ((own_esc [k223, k225, k227, k229]) : List Int32).length)), .val (.ref r245)] [(.int (1 : Int32))])) := c262'
      have c263 : Steps p.tables e below S0 (T262.setTop (mkF m 259 #[.val (.int i0), .val (.int i1), .val (.int i2), .val (.int i3), .val (.int i4), .val (.int (4 : Int32)), .val (.int k223), .val (.int k225), .val (.int k227), .val (.int k229), .val (.ref x231), .val (.ref b232), .val (.int (Int32.ofNat ((own_esc [k223, k225, k227, k229]) : List Int32).length)), .val (.ref r245)] [(.int (7 : Int32)), (.int (Int32.ofNat ((own_esc [k223, k225, k227, k229]) : List Int32).length)), (.ref b232), (.ref r245)])) := c262.trans (by
        refine XS.ifNo X262.here hx rfl (hb hby at_248) rfl ((if0 _ _).trans (feq (by decide : ¬ ((1 : Int32) = (0 : Int32)))).1) ?_
        refine XS.aload X262.here hx rfl (hb hby at_251) rfl rfl ?_
        refine XS.aload X262.here hx rfl (hb hby at_253) rfl rfl ?_
        refine XS.iload X262.here hx rfl (hb hby at_255) rfl ?_
        refine XS.bipush X262.here hx rfl (hb hby at_257) ?_
        exact Steps.refl _)
      obtain ⟨v264, T264, L264, X264, ⟨N264', rfl, e264⟩, c264'⟩ := own_stat X262 hx hml hZ231 hown231 (hw _ (List.mem_of_getElem? (i := 46) rfl)) (hw _ (List.mem_of_getElem? (i := 47) rfl)) (hw _ (List.mem_of_getElem? (i := 3) rfl)) (hw _ (List.mem_of_getElem? (i := 48) rfl)) (by decide) (kc := 0) (ks := 0) (h := T245.heap) (W := 0) (argsL := [(.ref r245), (.ref b232), (.int (Int32.ofNat ((own_esc [k223, k225, k227, k229]) : List Int32).length)), (.int (7 : Int32))]) (rest := []) (own_pay (W := 0) (rmAt l Z a0 hw (own_esc [k223, k225, k227, k229]) r245 t245 kb245 b232 k232 7 z fm T245.heap (((((((O0.keep K231 all0).ext E232).keep K234 (allS ge232 all0)).keep K236 (allS ge232 all0)).keep K238 (allS ge232 all0)).keep K240 (allS ge232 all0)).keep K245 all0) E245 V245 Cd245 Kb245 (Vs242.keep K245 nin0) (own_escB hBs) (by decide) (Nat.le_trans hel (by decide)) SC hz SF hfm) hZ231 (hw _ (List.mem_of_getElem? (i := 48) rfl)) (hw _ (List.mem_of_getElem? (i := 3) rfl)) (by decide) (by decide)) c263 (lenOf pd_25 rfl) rfl (hb hby at_259) e262
      have N264 := Fr.app N262 N264'
      have c264 : Steps p.tables e below S0 (T264.setTop (mkF m 262 #[.val (.int i0), .val (.int i1), .val (.int i2), .val (.int i3), .val (.int i4), .val (.int (4 : Int32)), .val (.int k223), .val (.int k225), .val (.int k227), .val (.int k229), .val (.ref x231), .val (.ref b232), .val (.int (Int32.ofNat ((own_esc [k223, k225, k227, k229]) : List Int32).length)), .val (.ref r245)] [(.int (1 : Int32))])) := c264'
      have c265 : Steps p.tables e below S0 (T264.setTop (mkF m 270 #[.val (.int i0), .val (.int i1), .val (.int i2), .val (.int i3), .val (.int i4), .val (.int (4 : Int32)), .val (.int k223), .val (.int k225), .val (.int k227), .val (.int k229), .val (.ref x231), .val (.ref b232), .val (.int (Int32.ofNat ((own_esc [k223, k225, k227, k229]) : List Int32).length)), .val (.ref r245)] [(.int (1 : Int32))])) := c264.trans (by
        refine XS.ifNo X264.here hx rfl (hb hby at_262) rfl ((if0 _ _).trans (feq (by decide : ¬ ((1 : Int32) = (0 : Int32)))).1) ?_
        refine XS.iconst X264.here hx rfl (hb hby at_265) ?_
        refine XS.goto X264.here hx rfl (pc0 := 266) (pc' := 270) rfl (hb hby at_266) (by decide) (by decide) ?_
        exact Steps.refl _)
      refine ⟨T264, T231.vm, _, (some (.int (1 : Int32))), _, _, _, X264, by decide, by decide, (fun q => by cases q), N264, hS231, by rw [e264]; exact hk245, hZ231, by rw [e264]; exact CR245, ?_, fun fs hr => ?_⟩
      · skip
        exact rfl
      · exact c265.trans (retN X264 hx (t := .boolean) hret (by simp) (hb hby at_270) hr)
    · skip
      have c267 : Steps p.tables e below S0 (T247.setTop (mkF m 166 #[.val (.int i0), .val (.int i1), .val (.int i2), .val (.int i3), .val (.int i4), .val (.int (4 : Int32)), .val (.int k223), .val (.int k225), .val (.int k227), .val (.int k229), .val (.ref x231), .val (.ref b232), .val (.int (Int32.ofNat ((own_esc [k223, k225, k227, k229]) : List Int32).length)), .val (.ref r245)] [(.int (0 : Int32)), (.int (Int32.ofNat ((own_esc [k223, k225, k227, k229]) : List Int32).length)), (.ref b232), (.ref r245)])) := c248.trans (by
        refine XS.icmpYes X247.here hx rfl (pc0 := 147) (pc' := 159) rfl (hb hby at_147) rfl (feq (own_neN (b := 4) (Nat.lt_of_le_of_lt hel (by decide)) (by decide) (fun q => Nat.lt_irrefl _ (Nat.lt_of_lt_of_eq hg245 q)))).2 (by decide) (by decide) ?_
        refine XS.aload X247.here hx rfl (hb hby at_159) rfl rfl ?_
        refine XS.aload X247.here hx rfl (hb hby at_161) rfl rfl ?_
        refine XS.iload X247.here hx rfl (hb hby at_163) rfl ?_
        refine XS.iconst X247.here hx rfl (hb hby at_165) ?_
        exact Steps.refl _)
      obtain ⟨v268, T268, L268, X268, ⟨N268', rfl, e268⟩, c268'⟩ := own_stat X247 hx hml hZ231 hown231 (hw _ (List.mem_of_getElem? (i := 46) rfl)) (hw _ (List.mem_of_getElem? (i := 47) rfl)) (hw _ (List.mem_of_getElem? (i := 3) rfl)) (hw _ (List.mem_of_getElem? (i := 48) rfl)) (by decide) (kc := 0) (ks := 0) (h := T245.heap) (W := 0) (argsL := [(.ref r245), (.ref b232), (.int (Int32.ofNat ((own_esc [k223, k225, k227, k229]) : List Int32).length)), (.int (0 : Int32))]) (rest := []) (own_pay (W := 0) (rmAt l Z a0 hw (own_esc [k223, k225, k227, k229]) r245 t245 kb245 b232 k232 0 z fm T245.heap (((((((O0.keep K231 all0).ext E232).keep K234 (allS ge232 all0)).keep K236 (allS ge232 all0)).keep K238 (allS ge232 all0)).keep K240 (allS ge232 all0)).keep K245 all0) E245 V245 Cd245 Kb245 (Vs242.keep K245 nin0) (own_escB hBs) (by decide) (Nat.le_trans hel (by decide)) SC hz SF hfm) hZ231 (hw _ (List.mem_of_getElem? (i := 48) rfl)) (hw _ (List.mem_of_getElem? (i := 3) rfl)) (by decide) (by decide)) c267 (lenOf pd_25 rfl) rfl (hb hby at_166) e247
      have N268 := Fr.app N247 N268'
      have c268 : Steps p.tables e below S0 (T268.setTop (mkF m 169 #[.val (.int i0), .val (.int i1), .val (.int i2), .val (.int i3), .val (.int i4), .val (.int (4 : Int32)), .val (.int k223), .val (.int k225), .val (.int k227), .val (.int k229), .val (.ref x231), .val (.ref b232), .val (.int (Int32.ofNat ((own_esc [k223, k225, k227, k229]) : List Int32).length)), .val (.ref r245)] [(.int (1 : Int32))])) := c268'
      have c269 : Steps p.tables e below S0 (T268.setTop (mkF m 179 #[.val (.int i0), .val (.int i1), .val (.int i2), .val (.int i3), .val (.int i4), .val (.int (4 : Int32)), .val (.int k223), .val (.int k225), .val (.int k227), .val (.int k229), .val (.ref x231), .val (.ref b232), .val (.int (Int32.ofNat ((own_esc [k223, k225, k227, k229]) : List Int32).length)), .val (.ref r245)] [(.int (1 : Int32)), (.int (Int32.ofNat ((own_esc [k223, k225, k227, k229]) : List Int32).length)), (.ref b232), (.ref r245)])) := c268.trans (by
        refine XS.ifNo X268.here hx rfl (hb hby at_169) rfl ((if0 _ _).trans (feq (by decide : ¬ ((1 : Int32) = (0 : Int32)))).1) ?_
        refine XS.aload X268.here hx rfl (hb hby at_172) rfl rfl ?_
        refine XS.aload X268.here hx rfl (hb hby at_174) rfl rfl ?_
        refine XS.iload X268.here hx rfl (hb hby at_176) rfl ?_
        refine XS.iconst X268.here hx rfl (hb hby at_178) ?_
        exact Steps.refl _)
      obtain ⟨v270, T270, L270, X270, ⟨N270', rfl, e270⟩, c270'⟩ := own_stat X268 hx hml hZ231 hown231 (hw _ (List.mem_of_getElem? (i := 46) rfl)) (hw _ (List.mem_of_getElem? (i := 47) rfl)) (hw _ (List.mem_of_getElem? (i := 3) rfl)) (hw _ (List.mem_of_getElem? (i := 48) rfl)) (by decide) (kc := 0) (ks := 0) (h := T245.heap) (W := 0) (argsL := [(.ref r245), (.ref b232), (.int (Int32.ofNat ((own_esc [k223, k225, k227, k229]) : List Int32).length)), (.int (1 : Int32))]) (rest := []) (own_pay (W := 0) (rmAt l Z a0 hw (own_esc [k223, k225, k227, k229]) r245 t245 kb245 b232 k232 1 z fm T245.heap (((((((O0.keep K231 all0).ext E232).keep K234 (allS ge232 all0)).keep K236 (allS ge232 all0)).keep K238 (allS ge232 all0)).keep K240 (allS ge232 all0)).keep K245 all0) E245 V245 Cd245 Kb245 (Vs242.keep K245 nin0) (own_escB hBs) (by decide) (Nat.le_trans hel (by decide)) SC hz SF hfm) hZ231 (hw _ (List.mem_of_getElem? (i := 48) rfl)) (hw _ (List.mem_of_getElem? (i := 3) rfl)) (by decide) (by decide)) c269 (lenOf pd_25 rfl) rfl (hb hby at_179) e268
      have N270 := Fr.app N268 N270'
      have c270 : Steps p.tables e below S0 (T270.setTop (mkF m 182 #[.val (.int i0), .val (.int i1), .val (.int i2), .val (.int i3), .val (.int i4), .val (.int (4 : Int32)), .val (.int k223), .val (.int k225), .val (.int k227), .val (.int k229), .val (.ref x231), .val (.ref b232), .val (.int (Int32.ofNat ((own_esc [k223, k225, k227, k229]) : List Int32).length)), .val (.ref r245)] [(.int (1 : Int32))])) := c270'
      have c271 : Steps p.tables e below S0 (T270.setTop (mkF m 192 #[.val (.int i0), .val (.int i1), .val (.int i2), .val (.int i3), .val (.int i4), .val (.int (4 : Int32)), .val (.int k223), .val (.int k225), .val (.int k227), .val (.int k229), .val (.ref x231), .val (.ref b232), .val (.int (Int32.ofNat ((own_esc [k223, k225, k227, k229]) : List Int32).length)), .val (.ref r245)] [(.int (2 : Int32)), (.int (Int32.ofNat ((own_esc [k223, k225, k227, k229]) : List Int32).length)), (.ref b232), (.ref r245)])) := c270.trans (by
        refine XS.ifNo X270.here hx rfl (hb hby at_182) rfl ((if0 _ _).trans (feq (by decide : ¬ ((1 : Int32) = (0 : Int32)))).1) ?_
        refine XS.aload X270.here hx rfl (hb hby at_185) rfl rfl ?_
        refine XS.aload X270.here hx rfl (hb hby at_187) rfl rfl ?_
        refine XS.iload X270.here hx rfl (hb hby at_189) rfl ?_
        refine XS.iconst X270.here hx rfl (hb hby at_191) ?_
        exact Steps.refl _)
      obtain ⟨v272, T272, L272, X272, ⟨N272', rfl, e272⟩, c272'⟩ := own_stat X270 hx hml hZ231 hown231 (hw _ (List.mem_of_getElem? (i := 46) rfl)) (hw _ (List.mem_of_getElem? (i := 47) rfl)) (hw _ (List.mem_of_getElem? (i := 3) rfl)) (hw _ (List.mem_of_getElem? (i := 48) rfl)) (by decide) (kc := 0) (ks := 0) (h := T245.heap) (W := 0) (argsL := [(.ref r245), (.ref b232), (.int (Int32.ofNat ((own_esc [k223, k225, k227, k229]) : List Int32).length)), (.int (2 : Int32))]) (rest := []) (own_pay (W := 0) (rmAt l Z a0 hw (own_esc [k223, k225, k227, k229]) r245 t245 kb245 b232 k232 2 z fm T245.heap (((((((O0.keep K231 all0).ext E232).keep K234 (allS ge232 all0)).keep K236 (allS ge232 all0)).keep K238 (allS ge232 all0)).keep K240 (allS ge232 all0)).keep K245 all0) E245 V245 Cd245 Kb245 (Vs242.keep K245 nin0) (own_escB hBs) (by decide) (Nat.le_trans hel (by decide)) SC hz SF hfm) hZ231 (hw _ (List.mem_of_getElem? (i := 48) rfl)) (hw _ (List.mem_of_getElem? (i := 3) rfl)) (by decide) (by decide)) c271 (lenOf pd_25 rfl) rfl (hb hby at_192) e270
      have N272 := Fr.app N270 N272'
      have c272 : Steps p.tables e below S0 (T272.setTop (mkF m 195 #[.val (.int i0), .val (.int i1), .val (.int i2), .val (.int i3), .val (.int i4), .val (.int (4 : Int32)), .val (.int k223), .val (.int k225), .val (.int k227), .val (.int k229), .val (.ref x231), .val (.ref b232), .val (.int (Int32.ofNat ((own_esc [k223, k225, k227, k229]) : List Int32).length)), .val (.ref r245)] [(.int (1 : Int32))])) := c272'
      have c273 : Steps p.tables e below S0 (T272.setTop (mkF m 205 #[.val (.int i0), .val (.int i1), .val (.int i2), .val (.int i3), .val (.int i4), .val (.int (4 : Int32)), .val (.int k223), .val (.int k225), .val (.int k227), .val (.int k229), .val (.ref x231), .val (.ref b232), .val (.int (Int32.ofNat ((own_esc [k223, k225, k227, k229]) : List Int32).length)), .val (.ref r245)] [(.int (3 : Int32)), (.int (Int32.ofNat ((own_esc [k223, k225, k227, k229]) : List Int32).length)), (.ref b232), (.ref r245)])) := c272.trans (by
        refine XS.ifNo X272.here hx rfl (hb hby at_195) rfl ((if0 _ _).trans (feq (by decide : ¬ ((1 : Int32) = (0 : Int32)))).1) ?_
        refine XS.aload X272.here hx rfl (hb hby at_198) rfl rfl ?_
        refine XS.aload X272.here hx rfl (hb hby at_200) rfl rfl ?_
        refine XS.iload X272.here hx rfl (hb hby at_202) rfl ?_
        refine XS.iconst X272.here hx rfl (hb hby at_204) ?_
        exact Steps.refl _)
      obtain ⟨v274, T274, L274, X274, ⟨N274', rfl, e274⟩, c274'⟩ := own_stat X272 hx hml hZ231 hown231 (hw _ (List.mem_of_getElem? (i := 46) rfl)) (hw _ (List.mem_of_getElem? (i := 47) rfl)) (hw _ (List.mem_of_getElem? (i := 3) rfl)) (hw _ (List.mem_of_getElem? (i := 48) rfl)) (by decide) (kc := 0) (ks := 0) (h := T245.heap) (W := 0) (argsL := [(.ref r245), (.ref b232), (.int (Int32.ofNat ((own_esc [k223, k225, k227, k229]) : List Int32).length)), (.int (3 : Int32))]) (rest := []) (own_pay (W := 0) (rmAt l Z a0 hw (own_esc [k223, k225, k227, k229]) r245 t245 kb245 b232 k232 3 z fm T245.heap (((((((O0.keep K231 all0).ext E232).keep K234 (allS ge232 all0)).keep K236 (allS ge232 all0)).keep K238 (allS ge232 all0)).keep K240 (allS ge232 all0)).keep K245 all0) E245 V245 Cd245 Kb245 (Vs242.keep K245 nin0) (own_escB hBs) (by decide) (Nat.le_trans hel (by decide)) SC hz SF hfm) hZ231 (hw _ (List.mem_of_getElem? (i := 48) rfl)) (hw _ (List.mem_of_getElem? (i := 3) rfl)) (by decide) (by decide)) c273 (lenOf pd_25 rfl) rfl (hb hby at_205) e272
      have N274 := Fr.app N272 N274'
      have c274 : Steps p.tables e below S0 (T274.setTop (mkF m 208 #[.val (.int i0), .val (.int i1), .val (.int i2), .val (.int i3), .val (.int i4), .val (.int (4 : Int32)), .val (.int k223), .val (.int k225), .val (.int k227), .val (.int k229), .val (.ref x231), .val (.ref b232), .val (.int (Int32.ofNat ((own_esc [k223, k225, k227, k229]) : List Int32).length)), .val (.ref r245)] [(.int (1 : Int32))])) := c274'
      have c275 : Steps p.tables e below S0 (T274.setTop (mkF m 218 #[.val (.int i0), .val (.int i1), .val (.int i2), .val (.int i3), .val (.int i4), .val (.int (4 : Int32)), .val (.int k223), .val (.int k225), .val (.int k227), .val (.int k229), .val (.ref x231), .val (.ref b232), .val (.int (Int32.ofNat ((own_esc [k223, k225, k227, k229]) : List Int32).length)), .val (.ref r245)] [(.int (4 : Int32)), (.int (Int32.ofNat ((own_esc [k223, k225, k227, k229]) : List Int32).length)), (.ref b232), (.ref r245)])) := c274.trans (by
        refine XS.ifNo X274.here hx rfl (hb hby at_208) rfl ((if0 _ _).trans (feq (by decide : ¬ ((1 : Int32) = (0 : Int32)))).1) ?_
        refine XS.aload X274.here hx rfl (hb hby at_211) rfl rfl ?_
        refine XS.aload X274.here hx rfl (hb hby at_213) rfl rfl ?_
        refine XS.iload X274.here hx rfl (hb hby at_215) rfl ?_
        refine XS.iconst X274.here hx rfl (hb hby at_217) ?_
        exact Steps.refl _)
      obtain ⟨v276, T276, L276, X276, ⟨N276', rfl, e276⟩, c276'⟩ := own_stat X274 hx hml hZ231 hown231 (hw _ (List.mem_of_getElem? (i := 46) rfl)) (hw _ (List.mem_of_getElem? (i := 47) rfl)) (hw _ (List.mem_of_getElem? (i := 3) rfl)) (hw _ (List.mem_of_getElem? (i := 48) rfl)) (by decide) (kc := 0) (ks := 0) (h := T245.heap) (W := 0) (argsL := [(.ref r245), (.ref b232), (.int (Int32.ofNat ((own_esc [k223, k225, k227, k229]) : List Int32).length)), (.int (4 : Int32))]) (rest := []) (own_pay (W := 0) (rmAt l Z a0 hw (own_esc [k223, k225, k227, k229]) r245 t245 kb245 b232 k232 4 z fm T245.heap (((((((O0.keep K231 all0).ext E232).keep K234 (allS ge232 all0)).keep K236 (allS ge232 all0)).keep K238 (allS ge232 all0)).keep K240 (allS ge232 all0)).keep K245 all0) E245 V245 Cd245 Kb245 (Vs242.keep K245 nin0) (own_escB hBs) (by decide) (Nat.le_trans hel (by decide)) SC hz SF hfm) hZ231 (hw _ (List.mem_of_getElem? (i := 48) rfl)) (hw _ (List.mem_of_getElem? (i := 3) rfl)) (by decide) (by decide)) c275 (lenOf pd_25 rfl) rfl (hb hby at_218) e274
      have N276 := Fr.app N274 N276'
      have c276 : Steps p.tables e below S0 (T276.setTop (mkF m 221 #[.val (.int i0), .val (.int i1), .val (.int i2), .val (.int i3), .val (.int i4), .val (.int (4 : Int32)), .val (.int k223), .val (.int k225), .val (.int k227), .val (.int k229), .val (.ref x231), .val (.ref b232), .val (.int (Int32.ofNat ((own_esc [k223, k225, k227, k229]) : List Int32).length)), .val (.ref r245)] [(.int (1 : Int32))])) := c276'
      have c277 : Steps p.tables e below S0 (T276.setTop (mkF m 231 #[.val (.int i0), .val (.int i1), .val (.int i2), .val (.int i3), .val (.int i4), .val (.int (4 : Int32)), .val (.int k223), .val (.int k225), .val (.int k227), .val (.int k229), .val (.ref x231), .val (.ref b232), .val (.int (Int32.ofNat ((own_esc [k223, k225, k227, k229]) : List Int32).length)), .val (.ref r245)] [(.int (5 : Int32)), (.int (Int32.ofNat ((own_esc [k223, k225, k227, k229]) : List Int32).length)), (.ref b232), (.ref r245)])) := c276.trans (by
        refine XS.ifNo X276.here hx rfl (hb hby at_221) rfl ((if0 _ _).trans (feq (by decide : ¬ ((1 : Int32) = (0 : Int32)))).1) ?_
        refine XS.aload X276.here hx rfl (hb hby at_224) rfl rfl ?_
        refine XS.aload X276.here hx rfl (hb hby at_226) rfl rfl ?_
        refine XS.iload X276.here hx rfl (hb hby at_228) rfl ?_
        refine XS.iconst X276.here hx rfl (hb hby at_230) ?_
        exact Steps.refl _)
      obtain ⟨v278, T278, L278, X278, ⟨N278', rfl, e278⟩, c278'⟩ := own_stat X276 hx hml hZ231 hown231 (hw _ (List.mem_of_getElem? (i := 46) rfl)) (hw _ (List.mem_of_getElem? (i := 47) rfl)) (hw _ (List.mem_of_getElem? (i := 3) rfl)) (hw _ (List.mem_of_getElem? (i := 48) rfl)) (by decide) (kc := 0) (ks := 0) (h := T245.heap) (W := 0) (argsL := [(.ref r245), (.ref b232), (.int (Int32.ofNat ((own_esc [k223, k225, k227, k229]) : List Int32).length)), (.int (5 : Int32))]) (rest := []) (own_pay (W := 0) (rmAt l Z a0 hw (own_esc [k223, k225, k227, k229]) r245 t245 kb245 b232 k232 5 z fm T245.heap (((((((O0.keep K231 all0).ext E232).keep K234 (allS ge232 all0)).keep K236 (allS ge232 all0)).keep K238 (allS ge232 all0)).keep K240 (allS ge232 all0)).keep K245 all0) E245 V245 Cd245 Kb245 (Vs242.keep K245 nin0) (own_escB hBs) (by decide) (Nat.le_trans hel (by decide)) SC hz SF hfm) hZ231 (hw _ (List.mem_of_getElem? (i := 48) rfl)) (hw _ (List.mem_of_getElem? (i := 3) rfl)) (by decide) (by decide)) c277 (lenOf pd_25 rfl) rfl (hb hby at_231) e276
      have N278 := Fr.app N276 N278'
      have c278 : Steps p.tables e below S0 (T278.setTop (mkF m 234 #[.val (.int i0), .val (.int i1), .val (.int i2), .val (.int i3), .val (.int i4), .val (.int (4 : Int32)), .val (.int k223), .val (.int k225), .val (.int k227), .val (.int k229), .val (.ref x231), .val (.ref b232), .val (.int (Int32.ofNat ((own_esc [k223, k225, k227, k229]) : List Int32).length)), .val (.ref r245)] [(.int (1 : Int32))])) := c278'
      have c279 : Steps p.tables e below S0 (T278.setTop (mkF m 245 #[.val (.int i0), .val (.int i1), .val (.int i2), .val (.int i3), .val (.int i4), .val (.int (4 : Int32)), .val (.int k223), .val (.int k225), .val (.int k227), .val (.int k229), .val (.ref x231), .val (.ref b232), .val (.int (Int32.ofNat ((own_esc [k223, k225, k227, k229]) : List Int32).length)), .val (.ref r245)] [(.int (6 : Int32)), (.int (Int32.ofNat ((own_esc [k223, k225, k227, k229]) : List Int32).length)), (.ref b232), (.ref r245)])) := c278.trans (by
        refine XS.ifNo X278.here hx rfl (hb hby at_234) rfl ((if0 _ _).trans (feq (by decide : ¬ ((1 : Int32) = (0 : Int32)))).1) ?_
        refine XS.aload X278.here hx rfl (hb hby at_237) rfl rfl ?_
        refine XS.aload X278.here hx rfl (hb hby at_239) rfl rfl ?_
        refine XS.iload X278.here hx rfl (hb hby at_241) rfl ?_
        refine XS.bipush X278.here hx rfl (hb hby at_243) ?_
        exact Steps.refl _)
      obtain ⟨v280, T280, L280, X280, ⟨N280', rfl, e280⟩, c280'⟩ := own_stat X278 hx hml hZ231 hown231 (hw _ (List.mem_of_getElem? (i := 46) rfl)) (hw _ (List.mem_of_getElem? (i := 47) rfl)) (hw _ (List.mem_of_getElem? (i := 3) rfl)) (hw _ (List.mem_of_getElem? (i := 48) rfl)) (by decide) (kc := 0) (ks := 0) (h := T245.heap) (W := 0) (argsL := [(.ref r245), (.ref b232), (.int (Int32.ofNat ((own_esc [k223, k225, k227, k229]) : List Int32).length)), (.int (6 : Int32))]) (rest := []) (own_pay (W := 0) (rmAt l Z a0 hw (own_esc [k223, k225, k227, k229]) r245 t245 kb245 b232 k232 6 z fm T245.heap (((((((O0.keep K231 all0).ext E232).keep K234 (allS ge232 all0)).keep K236 (allS ge232 all0)).keep K238 (allS ge232 all0)).keep K240 (allS ge232 all0)).keep K245 all0) E245 V245 Cd245 Kb245 (Vs242.keep K245 nin0) (own_escB hBs) (by decide) (Nat.le_trans hel (by decide)) SC hz SF hfm) hZ231 (hw _ (List.mem_of_getElem? (i := 48) rfl)) (hw _ (List.mem_of_getElem? (i := 3) rfl)) (by decide) (by decide)) c279 (lenOf pd_25 rfl) rfl (hb hby at_245) e278
      have N280 := Fr.app N278 N280'
      have c280 : Steps p.tables e below S0 (T280.setTop (mkF m 248 #[.val (.int i0), .val (.int i1), .val (.int i2), .val (.int i3), .val (.int i4), .val (.int (4 : Int32)), .val (.int k223), .val (.int k225), .val (.int k227), .val (.int k229), .val (.ref x231), .val (.ref b232), .val (.int (Int32.ofNat ((own_esc [k223, k225, k227, k229]) : List Int32).length)), .val (.ref r245)] [(.int (1 : Int32))])) := c280'
      have c281 : Steps p.tables e below S0 (T280.setTop (mkF m 259 #[.val (.int i0), .val (.int i1), .val (.int i2), .val (.int i3), .val (.int i4), .val (.int (4 : Int32)), .val (.int k223), .val (.int k225), .val (.int k227), .val (.int k229), .val (.ref x231), .val (.ref b232), .val (.int (Int32.ofNat ((own_esc [k223, k225, k227, k229]) : List Int32).length)), .val (.ref r245)] [(.int (7 : Int32)), (.int (Int32.ofNat ((own_esc [k223, k225, k227, k229]) : List Int32).length)), (.ref b232), (.ref r245)])) := c280.trans (by
        refine XS.ifNo X280.here hx rfl (hb hby at_248) rfl ((if0 _ _).trans (feq (by decide : ¬ ((1 : Int32) = (0 : Int32)))).1) ?_
        refine XS.aload X280.here hx rfl (hb hby at_251) rfl rfl ?_
        refine XS.aload X280.here hx rfl (hb hby at_253) rfl rfl ?_
        refine XS.iload X280.here hx rfl (hb hby at_255) rfl ?_
        refine XS.bipush X280.here hx rfl (hb hby at_257) ?_
        exact Steps.refl _)
      obtain ⟨v282, T282, L282, X282, ⟨N282', rfl, e282⟩, c282'⟩ := own_stat X280 hx hml hZ231 hown231 (hw _ (List.mem_of_getElem? (i := 46) rfl)) (hw _ (List.mem_of_getElem? (i := 47) rfl)) (hw _ (List.mem_of_getElem? (i := 3) rfl)) (hw _ (List.mem_of_getElem? (i := 48) rfl)) (by decide) (kc := 0) (ks := 0) (h := T245.heap) (W := 0) (argsL := [(.ref r245), (.ref b232), (.int (Int32.ofNat ((own_esc [k223, k225, k227, k229]) : List Int32).length)), (.int (7 : Int32))]) (rest := []) (own_pay (W := 0) (rmAt l Z a0 hw (own_esc [k223, k225, k227, k229]) r245 t245 kb245 b232 k232 7 z fm T245.heap (((((((O0.keep K231 all0).ext E232).keep K234 (allS ge232 all0)).keep K236 (allS ge232 all0)).keep K238 (allS ge232 all0)).keep K240 (allS ge232 all0)).keep K245 all0) E245 V245 Cd245 Kb245 (Vs242.keep K245 nin0) (own_escB hBs) (by decide) (Nat.le_trans hel (by decide)) SC hz SF hfm) hZ231 (hw _ (List.mem_of_getElem? (i := 48) rfl)) (hw _ (List.mem_of_getElem? (i := 3) rfl)) (by decide) (by decide)) c281 (lenOf pd_25 rfl) rfl (hb hby at_259) e280
      have N282 := Fr.app N280 N282'
      have c282 : Steps p.tables e below S0 (T282.setTop (mkF m 262 #[.val (.int i0), .val (.int i1), .val (.int i2), .val (.int i3), .val (.int i4), .val (.int (4 : Int32)), .val (.int k223), .val (.int k225), .val (.int k227), .val (.int k229), .val (.ref x231), .val (.ref b232), .val (.int (Int32.ofNat ((own_esc [k223, k225, k227, k229]) : List Int32).length)), .val (.ref r245)] [(.int (1 : Int32))])) := c282'
      have c283 : Steps p.tables e below S0 (T282.setTop (mkF m 270 #[.val (.int i0), .val (.int i1), .val (.int i2), .val (.int i3), .val (.int i4), .val (.int (4 : Int32)), .val (.int k223), .val (.int k225), .val (.int k227), .val (.int k229), .val (.ref x231), .val (.ref b232), .val (.int (Int32.ofNat ((own_esc [k223, k225, k227, k229]) : List Int32).length)), .val (.ref r245)] [(.int (1 : Int32))])) := c282.trans (by
        refine XS.ifNo X282.here hx rfl (hb hby at_262) rfl ((if0 _ _).trans (feq (by decide : ¬ ((1 : Int32) = (0 : Int32)))).1) ?_
        refine XS.iconst X282.here hx rfl (hb hby at_265) ?_
        refine XS.goto X282.here hx rfl (pc0 := 266) (pc' := 270) rfl (hb hby at_266) (by decide) (by decide) ?_
        exact Steps.refl _)
      refine ⟨T282, T231.vm, _, (some (.int (1 : Int32))), _, _, _, X282, by decide, by decide, (fun q => by cases q), N282, hS231, by rw [e282]; exact hk245, hZ231, by rw [e282]; exact CR245, ?_, fun fs hr => ?_⟩
      · skip
        exact rfl
      · exact c283.trans (retN X282 hx (t := .boolean) hret (by simp) (hb hby at_270) hr)
set_option maxRecDepth 65536 in
set_option maxHeartbeats 40000000 in
theorem comes_1 {Post : Tables → Env → Array Value → State → Outcome → State → Prop} (hpost : ∀ tb e args s v u, (limb_1_1.after args s (.returned v) u = true ∧ limb_1_2.after args s (.returned v) u = true ∧ True) → ReturnedEndW s (.returned v) u (Jvm.fieldLocs frame_1_writes args s ++ Jvm.arrayLocs frame_1_arrays args s ++ Jvm.staticLocs frame_1_statics s) 32 1216 → Post tb e args s (.returned v) u) :
    ArmFor flags0 classFile x code maxLocals ret World_1 tables_1 room_1 Calls_1 rest_1 Pre_1 Post := by
  intro l hfl _ _ p e ha hc hk s m args below hf hA hF happ hP
  obtain ⟨hcalls, hrest, hpre⟩ := hP
  obtain ⟨-, -, -, hnamed, -, -, -, hat⟩ := (Spec.applies_iff hf).mp happ
  obtain ⟨hg, hn⟩ := and_e (Cond.before_iff.mp (show (Jvm.Cond.and given_1 narrow_1).before args s = true from hpre))
  obtain ⟨g10, hg⟩ := and_e hg
  obtain ⟨ga0, hg⟩ := and_e hg
  obtain ⟨ga1, hg⟩ := and_e hg
  obtain ⟨ga2, hg⟩ := and_e hg
  obtain ⟨ga3, hg⟩ := and_e hg
  have ga4 := hg
  obtain ⟨w0, w1, w2, w3, w4, rfl⟩ : ∃ w0 w1 w2 w3 w4 : Value, args = #[w0, w1, w2, w3, w4] := by
    have hs : args.size = 5 := by simpa [Cond.value, given_1] using g10
    obtain ⟨L⟩ := args
    match L, hs with
    | [w0, w1, w2, w3, w4], _ => exact ⟨w0, w1, w2, w3, w4, rfl⟩
  have hw := fun d (hd : d ∈ tables_1) => atoms_spec (ws := Jvm.Cond.code x code maxLocals ret :: tables_1) hat d (List.mem_cons_of_mem _ hd)
  have hfit : Fit s := fun {y c} hc i hi => by
    obtain ⟨ha, rfl⟩ := Array.getElem?_eq_some_iff.mp hc
    have q := List.all_eq_true.mp ((Array.all_eq_true_iff_forall_mem.mp hF) _ (Array.getElem_mem ha)) i (List.mem_range.mpr hi)
    simpa [Array.getElem?_eq_getElem hi] using q
  obtain ⟨i0, ei0⟩ := is_v ga0
  obtain rfl : w0 = (.int i0) := Option.some.inj ei0
  obtain ⟨i1, ei1⟩ := is_v ga1
  obtain rfl : w1 = (.int i1) := Option.some.inj ei1
  obtain ⟨i2, ei2⟩ := is_v ga2
  obtain rfl : w2 = (.int i2) := Option.some.inj ei2
  obtain ⟨i3, ei3⟩ := is_v ga3
  obtain rfl : w3 = (.int i3) := Option.some.inj ei3
  obtain ⟨i4, ei4⟩ := is_v ga4
  obtain rfl : w4 = (.int i4) := Option.some.inj ei4
  obtain ⟨hsets, hown0⟩ := atoms_of _ (rest_1_c_eq ▸ (show rest_1_c.before _ s = true from hrest))
  obtain ⟨z, ez⟩ := is_v (Cond.before_iff.mp (hsets _ (List.mem_of_getElem? (i := 1) rfl)))
  have hz : ¬ z = 0 := by
    have q := not_v (Cond.before_iff.mp (hsets _ (List.mem_of_getElem? (i := 2) rfl)))
    intro hz
    subst hz
    rw [eq_i ez (Term.int_eval (0)) rfl] at q
    cases q
  have SC := Sta.start ez (Or.inl (hsets _ (List.mem_of_getElem? (i := 0) rfl)))
  obtain ⟨fm, efm, hfm⟩ := isR_v (Cond.before_iff.mp (hsets _ (List.mem_of_getElem? (i := 8) rfl)))
  have SF := Sta.start efm (Or.inl (hsets _ (List.mem_of_getElem? (i := 7) rfl)))
  obtain ⟨fo, efo, hfo'⟩ := static_fit hfit (hw _ (List.mem_of_getElem? (i := 126) rfl)) (ty := .object "java/util/function/BiFunction") (by decide)
  have hfo : fo.isRef = true := by cases fo <;> first | rfl | cases hfo'
  have SI := Sta.start efo (Or.inr ⟨(hw _ (List.mem_of_getElem? (i := 83) rfl)), (hw _ (List.mem_of_getElem? (i := 126) rfl))⟩)
  have hEL : EW s #[.int i0, .int i1, .int i2, .int i3, .int i4] EL := (EW.cons (hw _ (List.mem_of_getElem? (i := 22) rfl)) (by decide) EW.nil)
  have hCH : CHv s EL s.vm s.heap := CHv.start hEL (fun q hq => hcalls.1 q hq) (hsets _ (List.mem_of_getElem? (i := 2) rfl)) (hw _ (List.mem_of_getElem? (i := 23) rfl)) (hw _ (List.mem_of_getElem? (i := 9) rfl))
  have M := rm0 l s _ hw hEL i0 i1 i2 i3 i4 z fm fo s.heap (Old.start s) SC hz SF hfm SI hfo
  obtain ⟨n, o, h1, h2, h3, _, L, rfl, ⟨N, rfl⟩, -, hq⟩ := own_wmet (ws := tables_1) (plainFor_of_name (by first | (simp [plainName, overriddenIn]; done) | decide +kernel)) hEL M p e ha hc hk s m _ below hf ((Spec.applies_iff_loose hf).mp happ).1 ⟨rfl, State.Warmed39.refl s, rfl, hCH, fun _ q => nomatch q⟩ trivial
  refine ⟨n, _, h1, h2, h3, hpost _ _ _ _ _ _ ⟨Cond.after_iff.mpr rfl, Cond.after_iff.mpr (eq_i res_at (Term.int_eval (1)) rfl), trivial⟩ ⟨hq.1, hq.2.1, hq.2.2.1, (hq.2.2.2.sift fun y hy => Or.inr (N y hy)).mono (by decide) (by decide)⟩⟩
theorem main_1_1 : Claimed_1_1 := comes_1 fun _ _ _ _ _ _ h hF => ⟨h.1, hF⟩
theorem main_1_2 : Claimed_1_2 := comes_1 fun _ _ _ _ _ _ h hF => ⟨h.2.1, hF⟩
end Jvm.Pilot.@@N@@
namespace Jvm.Pilot.@@N@@
open Jvm Jvm.ClassFile Sem Op Lib Jvm.Free Jvm.Stand Jvm.Pilot.@@N@@.Jvm.D
/-! MADE BY PROGRAM (witnessworld.py) out of the Statement's table words and the real class files: 26 classes; the members and pool entries that the words name. The judged class is class 1, her method 6. -/
namespace start1
open Jvm.ClassFile
def u (s : String) : CpInfo := .utf8 (stringToUtf16 s)
/-- a pool by its gaps: so many unusable entries, then the entry; so many at the end -/
def gap : Nat → List CpInfo → List CpInfo
  | 0, r => r
  | n + 1, r => .unusable :: gap n r
def poolList (es : List (Nat × CpInfo)) (last : Nat) : List CpInfo := es.foldr (fun e r => gap e.1 (e.2 :: r)) (gap last [])
def pool (es : List (Nat × CpInfo)) (last : Nat) : Array CpInfo := ⟨poolList es last⟩
def fileOf (pool : Array CpInfo) (this : Nat) (attrs : Array Attribute := #[]) (ms : Array MethodInfo := #[]) (fl : Nat := 33) (sup : Nat := 0) (ifs : Array Nat := #[]) (fds : Array FieldInfo := #[]) : ClassFile where
  minorVersion := 0
  majorVersion := 65
  constantPool := pool
  accessFlags := fl
  thisClass := this
  superClass := sup
  interfaces := ifs
  fields := fds
  methods := ms
  attributes := attrs
def plain (name : String) (sup : Option ClassId) : Class where
  name := name
  kind := .ordinary
  loader := none
  accessFlags := 33
  super := sup
  interfaces := #[]
  cf := none
  fields := #[]
  methods := #[]
  instanceTypes := #[]
  staticTypes := #[]
  resolved := #[]
  callSites := []
  init := .initialized
  statics := none
  mirror := none

def pool0 : Array CpInfo := pool [(5, u "<init>"), (0, u "()V"), (1, .class_ 10), (1, u "java/lang/Object"), (85, u "clone"), (0, u "()Ljava/lang/Object;")] 26

def k0c0 : Code := { maxStack := 0, maxLocals := 1, code := object_method_1_code, exceptionTable := #[], attributes := #[] }
def k0m0 : Method := { name := "<init>", desc := "()V", sig := { parameters := [], returnType := none }, accessFlags := 1, code := some k0c0 }
def k0m1 : Method := { name := "clone", desc := "()Ljava/lang/Object;", sig := { parameters := [], returnType := some (.object "java/lang/Object") }, accessFlags := 260, code := none }
/-- java/lang/Object -/
def k0 : Class := { plain "java/lang/Object" none with
  accessFlags := 33
  interfaces := #[]
  cf := some (fileOf pool0 8 #[] #[{ accessFlags := 1, nameIndex := 5, descriptorIndex := 6, attributes := #[] }, { accessFlags := 260, nameIndex := 96, descriptorIndex := 97, attributes := #[] }] 33 0 #[] #[])
  fields := #[]
  methods := #[k0m0, k0m1]
  instanceTypes := #[]
  staticTypes := #[]
  resolved := Array.replicate 124 none
  statics := none }

def pool1 : Array CpInfo := pool [(2, .class_ 4), (1, u "java/lang/Object"), (0, u "<init>"), (0, u "()V"), (0, .methodref 8 9), (0, .class_ 10), (0, .nameAndType 11 12), (0, u "com/example/attestor/attestor/interpolation/MessageTemplateEscapePinLaw"), (0, u "special"), (0, u "(C)Z"), (0, .class_ 14), (0, u "java/lang/String"), (0, .methodref 13 16), (0, .nameAndType 5 17), (0, u "([C)V"), (0, .methodref 13 19), (0, .nameAndType 20 21), (0, u "charAt"), (0, u "(I)C"), (0, .integer 2147483647), (0, .methodref 8 24), (0, .nameAndType 25 21), (0, u "draw"), (0, .methodref 8 27), (0, .nameAndType 28 29), (0, u "make"), (0, u "(ICCCC)Ljava/lang/String;"), (0, .methodref 8 31), (0, .nameAndType 32 33), (0, u "put"), (0, u "([CIC)I"), (0, .methodref 35 36), (0, .class_ 37), (0, .nameAndType 38 39), (0, u "com/example/attestor/attestor/interpolation/MessageTemplate"), (0, u "escape"), (0, u "(Ljava/lang/String;)Ljava/lang/String;"), (0, .methodref 13 41), (0, .nameAndType 42 43), (0, u "length"), (0, u "()I"), (0, .methodref 8 45), (0, .nameAndType 46 47), (0, u "at"), (0, u "(Ljava/lang/String;[CII)Z"), (3, u "law"), (0, u "(IIIII)Z")] 4

def k1m0 : Method := { name := "<init>", desc := "()V", sig := { parameters := [], returnType := none }, accessFlags := 2, code := none }
def k1c1 : Code := { maxStack := 2, maxLocals := 2, code := method_2_code, exceptionTable := #[], attributes := #[] }
def k1m1 : Method := { name := "draw", desc := "(I)C", sig := { parameters := [.int], returnType := some .char }, accessFlags := 10, code := some k1c1 }
def k1c2 : Code := { maxStack := 2, maxLocals := 1, code := method_3_code, exceptionTable := #[], attributes := #[] }
def k1m2 : Method := { name := "special", desc := "(C)Z", sig := { parameters := [.char], returnType := some .boolean }, accessFlags := 10, code := some k1c2 }
def k1c3 : Code := { maxStack := 3, maxLocals := 4, code := method_4_code, exceptionTable := #[], attributes := #[] }
def k1m3 : Method := { name := "put", desc := "([CIC)I", sig := { parameters := [(.array .char), .int, .char], returnType := some .int }, accessFlags := 10, code := some k1c3 }
def k1c4 : Code := { maxStack := 6, maxLocals := 5, code := method_5_code, exceptionTable := #[], attributes := #[] }
def k1m4 : Method := { name := "make", desc := "(ICCCC)Ljava/lang/String;", sig := { parameters := [.int, .char, .char, .char, .char], returnType := some (.object "java/lang/String") }, accessFlags := 10, code := some k1c4 }
def k1c5 : Code := { maxStack := 3, maxLocals := 4, code := method_6_code, exceptionTable := #[], attributes := #[] }
def k1m5 : Method := { name := "at", desc := "(Ljava/lang/String;[CII)Z", sig := { parameters := [(.object "java/lang/String"), (.array .char), .int, .int], returnType := some .boolean }, accessFlags := 10, code := some k1c5 }
def k1c6 : Code := { maxStack := 5, maxLocals := 14, code := code, exceptionTable := #[], attributes := #[] }
def k1m6 : Method := { name := "law", desc := "(IIIII)Z", sig := { parameters := [.int, .int, .int, .int, .int], returnType := some .boolean }, accessFlags := 9, code := some k1c6 }
/-- com/example/attestor/attestor/interpolation/MessageTemplateEscapePinLaw -/
def k1 : Class := { plain "com/example/attestor/attestor/interpolation/MessageTemplateEscapePinLaw" (some 0) with
  accessFlags := 49
  interfaces := #[]
  cf := some (fileOf pool1 8 #[] #[{ accessFlags := 2, nameIndex := 5, descriptorIndex := 6, attributes := #[] }, { accessFlags := 10, nameIndex := 25, descriptorIndex := 21, attributes := #[] }, { accessFlags := 10, nameIndex := 11, descriptorIndex := 12, attributes := #[] }, { accessFlags := 10, nameIndex := 32, descriptorIndex := 33, attributes := #[] }, { accessFlags := 10, nameIndex := 28, descriptorIndex := 29, attributes := #[] }, { accessFlags := 10, nameIndex := 46, descriptorIndex := 47, attributes := #[] }, { accessFlags := 9, nameIndex := 51, descriptorIndex := 52, attributes := #[] }] 49 2 #[] #[])
  fields := #[]
  methods := #[k1m0, k1m1, k1m2, k1m3, k1m4, k1m5, k1m6]
  instanceTypes := #[]
  staticTypes := #[]
  resolved := Array.replicate 57 none
  statics := none }

def pool2 : Array CpInfo := pool [(1, .class_ 2), (0, u "java/io/Serializable"), (0, .class_ 4), (0, u "java/lang/Object")] 2

/-- java/io/Serializable -/
def k2 : Class := { plain "java/io/Serializable" (some 0) with
  accessFlags := 1537
  interfaces := #[]
  cf := some (fileOf pool2 1 #[] #[] 1537 3 #[] #[])
  fields := #[]
  methods := #[]
  instanceTypes := #[]
  staticTypes := #[]
  resolved := Array.replicate 7 none
  statics := none }

def pool3 : Array CpInfo := pool [(1, .class_ 2), (0, u "java/lang/Comparable"), (0, .class_ 4), (0, u "java/lang/Object")] 7

/-- java/lang/Comparable -/
def k3 : Class := { plain "java/lang/Comparable" (some 0) with
  accessFlags := 1537
  interfaces := #[]
  cf := some (fileOf pool3 1 #[] #[] 1537 3 #[] #[])
  fields := #[]
  methods := #[]
  instanceTypes := #[]
  staticTypes := #[]
  resolved := Array.replicate 12 none
  statics := none }

def pool4 : Array CpInfo := pool [(2, .class_ 4), (1, u "java/lang/CharSequence"), (0, u "length"), (0, u "()I"), (40, .class_ 48), (0, u "java/lang/CharSequence$1CodePointIterator"), (10, .class_ 60), (0, u "java/lang/CharSequence$1CharIterator"), (5, .class_ 67), (0, u "java/lang/Object")] 63

def k4m0 : Method := { name := "length", desc := "()I", sig := { parameters := [], returnType := some .int }, accessFlags := 1025, code := none }
/-- java/lang/CharSequence -/
def k4 : Class := { plain "java/lang/CharSequence" (some 0) with
  accessFlags := 1537
  interfaces := #[]
  cf := some (fileOf pool4 2 #[.nestMembers #[47, 59]] #[{ accessFlags := 1025, nameIndex := 5, descriptorIndex := 6, attributes := #[] }] 1537 66 #[] #[])
  fields := #[]
  methods := #[k4m0]
  instanceTypes := #[]
  staticTypes := #[]
  resolved := Array.replicate 131 none
  statics := none }

def pool5 : Array CpInfo := pool [(1, .class_ 2), (0, u "java/lang/constant/Constable"), (0, .class_ 4), (0, u "java/lang/Object")] 6

/-- java/lang/constant/Constable -/
def k5 : Class := { plain "java/lang/constant/Constable" (some 0) with
  accessFlags := 1537
  interfaces := #[]
  cf := some (fileOf pool5 1 #[] #[] 1537 3 #[] #[])
  fields := #[]
  methods := #[]
  instanceTypes := #[]
  staticTypes := #[]
  resolved := Array.replicate 11 none
  statics := none }

def pool6 : Array CpInfo := pool [(1, .class_ 2), (0, u "java/lang/constant/ConstantDesc"), (0, .class_ 4), (0, u "java/lang/Object")] 32

/-- java/lang/constant/ConstantDesc -/
def k6 : Class := { plain "java/lang/constant/ConstantDesc" (some 0) with
  accessFlags := 1537
  interfaces := #[]
  cf := some (fileOf pool6 1 #[] #[] 1537 3 #[] #[])
  fields := #[]
  methods := #[]
  instanceTypes := #[]
  staticTypes := #[]
  resolved := Array.replicate 37 none
  statics := none }

def pool7 : Array CpInfo := pool [(1, .methodref 2 3), (0, .class_ 4), (0, .nameAndType 5 6), (0, u "java/lang/Object"), (0, u "<init>"), (0, u "()V"), (0, .string 8), (0, u ""), (0, .fieldref 10 11), (0, .class_ 12), (0, .nameAndType 13 14), (0, u "java/lang/String"), (0, u "value"), (0, u "[B"), (0, .fieldref 10 16), (0, .nameAndType 17 18), (0, u "coder"), (0, u "B"), (2, u "hash"), (0, u "I"), (2, u "hashIsZero"), (0, u "Z"), (0, .methodref 10 28), (0, .nameAndType 5 29), (0, u "([CIILjava/lang/Void;)V"), (8, .fieldref 10 39), (0, .nameAndType 40 26), (0, u "COMPACT_STRINGS"), (1, .class_ 44), (1, u "java/lang/StringUTF16"), (0, u "compress"), (1, .methodref 42 48), (0, .nameAndType 49 50), (0, u "coderFromArrayLen"), (0, u "([BI)B"), (3, .methodref 55 56), (0, .class_ 57), (0, .nameAndType 58 59), (0, u "java/util/Arrays"), (0, u "copyOfRange"), (0, u "([BII)[B"), (47, .class_ 109), (1, u "java/lang/StringLatin1"), (32, u "()Z"), (34, .methodref 42 178), (0, .nameAndType 45 179), (0, u "([CII)[B"), (154, u "()I"), (0, .methodref 10 336), (0, .nameAndType 17 337), (0, u "()B"), (2, u "()[B"), (22, u "([BI)C"), (27, u "(II)V"), (35, u "(I)C"), (61, .methodref 10 490), (0, .nameAndType 5 491), (0, u "(Ljava/lang/AbstractStringBuilder;Ljava/lang/Void;)V"), (0, .methodref 10 493), (0, .nameAndType 494 142), (0, u "isLatin1"), (0, .methodref 107 496), (0, .nameAndType 497 363), (0, u "charAt"), (3, u "checkIndex"), (4, .nameAndType 507 334), (0, u "length"), (41, .methodref 550 506), (0, .class_ 551), (0, u "java/lang/AbstractStringBuilder"), (0, .methodref 550 553), (0, .nameAndType 554 340), (0, u "getValue"), (20, .class_ 576), (0, u "java/lang/CharSequence"), (22, u "CASE_INSENSITIVE_ORDER"), (0, u "Ljava/util/Comparator;"), (409, u "([C)V"), (36, .methodref 550 493), (5, .fieldref 1054 1055), (0, .class_ 1056), (0, .nameAndType 1057 1058), (0, u "jdk/internal/util/Preconditions"), (0, u "SIOOBE_FORMATTER"), (0, u "Ljava/util/function/BiFunction;"), (0, .methodref 1054 1060), (0, .nameAndType 501 1061), (0, u "(IILjava/util/function/BiFunction;)I"), (39, u "serialPersistentFields"), (0, u "[Ljava/io/ObjectStreamField;"), (0, .class_ 1104), (0, u "java/lang/String$CaseInsensitiveComparator"), (1, .class_ 1107), (0, u "java/io/Serializable"), (0, .class_ 1109), (0, u "java/lang/Comparable"), (0, .class_ 1111), (0, u "java/lang/constant/Constable"), (0, .class_ 1113), (0, u "java/lang/constant/ConstantDesc"), (2, u "serialVersionUID"), (0, u "J"), (3, u "REPL"), (0, u "C"), (2, u "LATIN1"), (1, u "UTF16"), (105, u "(Ljava/lang/StringBuilder;)V")] 217

def k7m0 : Method := { name := "<init>", desc := "()V", sig := { parameters := [], returnType := none }, accessFlags := 1, code := none }
def k7c1 : Code := { maxStack := 5, maxLocals := 2, code := jdk_42_method_3_code, exceptionTable := #[], attributes := #[] }
def k7m1 : Method := { name := "<init>", desc := "([C)V", sig := { parameters := [(.array .char)], returnType := none }, accessFlags := 1, code := some k7c1 }
def k7c2 : Code := { maxStack := 3, maxLocals := 2, code := jdk_42_method_53_code, exceptionTable := #[], attributes := #[] }
def k7m2 : Method := { name := "<init>", desc := "(Ljava/lang/StringBuilder;)V", sig := { parameters := [(.object "java/lang/StringBuilder")], returnType := none }, accessFlags := 1, code := some k7c2 }
def k7c3 : Code := { maxStack := 2, maxLocals := 1, code := jdk_42_method_54_code, exceptionTable := #[], attributes := #[] }
def k7m3 : Method := { name := "length", desc := "()I", sig := { parameters := [], returnType := some .int }, accessFlags := 1, code := some k7c3 }
def k7c4 : Code := { maxStack := 2, maxLocals := 2, code := jdk_42_method_56_code, exceptionTable := #[], attributes := #[] }
def k7m4 : Method := { name := "charAt", desc := "(I)C", sig := { parameters := [.int], returnType := some .char }, accessFlags := 1, code := some k7c4 }
def k7c5 : Code := { maxStack := 4, maxLocals := 6, code := jdk_42_method_149_code, exceptionTable := #[], attributes := #[] }
def k7m5 : Method := { name := "<init>", desc := "([CIILjava/lang/Void;)V", sig := { parameters := [(.array .char), .int, .int, (.object "java/lang/Void")], returnType := none }, accessFlags := 2, code := some k7c5 }
def k7c6 : Code := { maxStack := 5, maxLocals := 5, code := jdk_42_method_150_code, exceptionTable := #[], attributes := #[] }
def k7m6 : Method := { name := "<init>", desc := "(Ljava/lang/AbstractStringBuilder;Ljava/lang/Void;)V", sig := { parameters := [(.object "java/lang/AbstractStringBuilder"), (.object "java/lang/Void")], returnType := none }, accessFlags := 0, code := some k7c6 }
def k7c7 : Code := { maxStack := 1, maxLocals := 1, code := jdk_42_method_152_code, exceptionTable := #[], attributes := #[] }
def k7m7 : Method := { name := "coder", desc := "()B", sig := { parameters := [], returnType := some .byte }, accessFlags := 0, code := some k7c7 }
def k7c8 : Code := { maxStack := 1, maxLocals := 1, code := jdk_42_method_153_code, exceptionTable := #[], attributes := #[] }
def k7m8 : Method := { name := "value", desc := "()[B", sig := { parameters := [], returnType := some (.array .byte) }, accessFlags := 0, code := some k7c8 }
def k7c9 : Code := { maxStack := 1, maxLocals := 1, code := jdk_42_method_154_code, exceptionTable := #[], attributes := #[] }
def k7m9 : Method := { name := "isLatin1", desc := "()Z", sig := { parameters := [], returnType := some .boolean }, accessFlags := 0, code := some k7c9 }
def k7c10 : Code := { maxStack := 3, maxLocals := 2, code := jdk_42_method_155_code, exceptionTable := #[], attributes := #[] }
def k7m10 : Method := { name := "checkIndex", desc := "(II)V", sig := { parameters := [.int, .int], returnType := none }, accessFlags := 8, code := some k7c10 }
/-- java/lang/String -/
def k7 : Class := { plain "java/lang/String" (some 0) with
  accessFlags := 49
  interfaces := #[2, 3, 4, 5, 6]
  cf := some (fileOf pool7 10 #[.nestMembers #[1103]] #[{ accessFlags := 1, nameIndex := 5, descriptorIndex := 6, attributes := #[] }, { accessFlags := 1, nameIndex := 5, descriptorIndex := 1010, attributes := #[] }, { accessFlags := 1, nameIndex := 5, descriptorIndex := 1233, attributes := #[] }, { accessFlags := 1, nameIndex := 507, descriptorIndex := 334, attributes := #[] }, { accessFlags := 1, nameIndex := 497, descriptorIndex := 427, attributes := #[] }, { accessFlags := 2, nameIndex := 5, descriptorIndex := 29, attributes := #[] }, { accessFlags := 0, nameIndex := 5, descriptorIndex := 491, attributes := #[] }, { accessFlags := 0, nameIndex := 17, descriptorIndex := 337, attributes := #[] }, { accessFlags := 0, nameIndex := 13, descriptorIndex := 340, attributes := #[] }, { accessFlags := 0, nameIndex := 494, descriptorIndex := 142, attributes := #[] }, { accessFlags := 8, nameIndex := 501, descriptorIndex := 391, attributes := #[] }] 49 2 #[1106, 1108, 575, 1110, 1112] #[{ accessFlags := 18, nameIndex := 13, descriptorIndex := 14, attributes := #[] }, { accessFlags := 18, nameIndex := 17, descriptorIndex := 18, attributes := #[] }, { accessFlags := 2, nameIndex := 21, descriptorIndex := 22, attributes := #[] }, { accessFlags := 2, nameIndex := 25, descriptorIndex := 26, attributes := #[] }, { accessFlags := 26, nameIndex := 1116, descriptorIndex := 1117, attributes := #[] }, { accessFlags := 24, nameIndex := 40, descriptorIndex := 26, attributes := #[] }, { accessFlags := 26, nameIndex := 1101, descriptorIndex := 1102, attributes := #[] }, { accessFlags := 26, nameIndex := 1121, descriptorIndex := 1122, attributes := #[] }, { accessFlags := 25, nameIndex := 599, descriptorIndex := 600, attributes := #[] }, { accessFlags := 24, nameIndex := 1125, descriptorIndex := 18, attributes := #[] }, { accessFlags := 24, nameIndex := 1127, descriptorIndex := 18, attributes := #[] }])
  fields := #[{ name := "value", type := (.array .byte), accessFlags := 18, slot := 0, constantValue := 0 }, { name := "coder", type := .byte, accessFlags := 18, slot := 1, constantValue := 0 }, { name := "hash", type := .int, accessFlags := 2, slot := 2, constantValue := 0 }, { name := "hashIsZero", type := .boolean, accessFlags := 2, slot := 3, constantValue := 0 }, { name := "serialVersionUID", type := .long, accessFlags := 26, slot := 0, constantValue := 0 }, { name := "COMPACT_STRINGS", type := .boolean, accessFlags := 24, slot := 1, constantValue := 0 }, { name := "serialPersistentFields", type := (.array (.object "java/io/ObjectStreamField")), accessFlags := 26, slot := 2, constantValue := 0 }, { name := "REPL", type := .char, accessFlags := 26, slot := 3, constantValue := 0 }, { name := "CASE_INSENSITIVE_ORDER", type := (.object "java/util/Comparator"), accessFlags := 25, slot := 4, constantValue := 0 }, { name := "LATIN1", type := .byte, accessFlags := 24, slot := 5, constantValue := 0 }, { name := "UTF16", type := .byte, accessFlags := 24, slot := 6, constantValue := 0 }]
  methods := #[k7m0, k7m1, k7m2, k7m3, k7m4, k7m5, k7m6, k7m7, k7m8, k7m9, k7m10]
  instanceTypes := #[(.array .byte), .byte, .int, .boolean]
  staticTypes := #[.long, .boolean, (.array (.object "java/io/ObjectStreamField")), .char, (.object "java/util/Comparator"), .byte, .byte]
  resolved := Array.replicate 1451 none
  statics := some 0 }

def pool8 : Array CpInfo := pool [(2, .class_ 4), (1, u "java/lang/Object"), (0, u "<init>"), (0, u "()V"), (0, .methodref 8 9), (0, .class_ 10), (0, .nameAndType 11 12), (0, u "java/lang/String"), (0, u "length"), (0, u "()I"), (0, .methodref 8 14), (0, .nameAndType 15 16), (0, u "charAt"), (0, u "(I)C"), (1, .class_ 20), (1, u "com/example/attestor/attestor/interpolation/MessageTemplate"), (12, .class_ 34), (0, u "java/lang/StringBuilder"), (0, .methodref 33 36), (0, .nameAndType 5 37), (0, u "(I)V"), (0, .methodref 33 39), (0, .nameAndType 40 41), (0, u "append"), (0, u "(Ljava/lang/CharSequence;II)Ljava/lang/StringBuilder;"), (3, .methodref 33 46), (0, .nameAndType 47 48), (0, u "toString"), (0, u "()Ljava/lang/String;"), (12, .methodref 33 62), (0, .nameAndType 40 63), (0, u "(C)Ljava/lang/StringBuilder;"), (3, u "(Ljava/lang/String;)Ljava/lang/String;"), (3, .methodref 18 72), (0, .nameAndType 73 74), (0, u "isEscapable"), (0, u "(C)Z"), (41, u "escape")] 17

def k8m0 : Method := { name := "<init>", desc := "()V", sig := { parameters := [], returnType := none }, accessFlags := 2, code := none }
def k8c1 : Code := { maxStack := 4, maxLocals := 4, code := prog_7_method_5_code, exceptionTable := #[], attributes := #[] }
def k8m1 : Method := { name := "escape", desc := "(Ljava/lang/String;)Ljava/lang/String;", sig := { parameters := [(.object "java/lang/String")], returnType := some (.object "java/lang/String") }, accessFlags := 8, code := some k8c1 }
def k8c2 : Code := { maxStack := 2, maxLocals := 1, code := prog_7_method_9_code, exceptionTable := #[], attributes := #[] }
def k8m2 : Method := { name := "isEscapable", desc := "(C)Z", sig := { parameters := [.char], returnType := some .boolean }, accessFlags := 10, code := some k8c2 }
/-- com/example/attestor/attestor/interpolation/MessageTemplate -/
def k8 : Class := { plain "com/example/attestor/attestor/interpolation/MessageTemplate" (some 0) with
  accessFlags := 48
  interfaces := #[]
  cf := some (fileOf pool8 18 #[] #[{ accessFlags := 2, nameIndex := 5, descriptorIndex := 6, attributes := #[] }, { accessFlags := 8, nameIndex := 116, descriptorIndex := 67, attributes := #[] }, { accessFlags := 10, nameIndex := 73, descriptorIndex := 74, attributes := #[] }] 48 2 #[] #[])
  fields := #[]
  methods := #[k8m0, k8m1, k8m2]
  instanceTypes := #[]
  staticTypes := #[]
  resolved := Array.replicate 134 none
  statics := none }

def pool9 : Array CpInfo := pool [(6, .class_ 8), (1, u "java/lang/Object"), (0, u "<init>"), (0, u "()V"), (1, .class_ 14), (1, u "java/lang/StringUTF16"), (31, u "$assertionsDisabled"), (0, u "Z"), (13, u "HI_BYTE_SHIFT"), (0, u "I"), (2, u "LO_BYTE_SHIFT"), (49, .methodref 12 116), (0, .nameAndType 117 118), (0, u "compress"), (0, u "([CI[BII)I"), (3, u "([CII)[B"), (138, u "coderFromArrayLen"), (0, u "([BI)B"), (106, .class_ 371), (1, u "java/lang/StringUTF16$LinesSpliterator"), (58, u "MAX_LENGTH"), (196, .class_ 628), (0, u "java/lang/StringUTF16$CodePointsSpliterator"), (0, .class_ 630), (0, u "java/lang/StringUTF16$CharsSpliterator")] 4

def k9m0 : Method := { name := "<init>", desc := "()V", sig := { parameters := [], returnType := none }, accessFlags := 0, code := none }
def k9c1 : Code := { maxStack := 2, maxLocals := 2, code := jdk_52_method_15_code, exceptionTable := #[], attributes := #[] }
def k9m1 : Method := { name := "coderFromArrayLen", desc := "([BI)B", sig := { parameters := [(.array .byte), .int], returnType := some .byte }, accessFlags := 8, code := some k9c1 }
def k9c2 : Code := { maxStack := 5, maxLocals := 6, code := jdk_52_method_16_code, exceptionTable := #[], attributes := #[] }
def k9m2 : Method := { name := "compress", desc := "([CII)[B", sig := { parameters := [(.array .char), .int, .int], returnType := some (.array .byte) }, accessFlags := 9, code := some k9c2 }
def k9c3 : Code := { maxStack := 3, maxLocals := 7, code := jdk_52_method_21_code, exceptionTable := #[], attributes := #[] }
def k9m3 : Method := { name := "compress", desc := "([CI[BII)I", sig := { parameters := [(.array .char), .int, (.array .byte), .int, .int], returnType := some .int }, accessFlags := 9, code := some k9c3 }
/-- java/lang/StringUTF16 -/
def k9 : Class := { plain "java/lang/StringUTF16" (some 0) with
  accessFlags := 48
  interfaces := #[]
  cf := some (fileOf pool9 12 #[.nestMembers #[627, 629, 369]] #[{ accessFlags := 0, nameIndex := 9, descriptorIndex := 10, attributes := #[] }, { accessFlags := 8, nameIndex := 261, descriptorIndex := 262, attributes := #[] }, { accessFlags := 9, nameIndex := 117, descriptorIndex := 122, attributes := #[] }, { accessFlags := 9, nameIndex := 117, descriptorIndex := 118, attributes := #[] }] 48 6 #[] #[{ accessFlags := 26, nameIndex := 61, descriptorIndex := 62, attributes := #[] }, { accessFlags := 26, nameIndex := 65, descriptorIndex := 62, attributes := #[] }, { accessFlags := 24, nameIndex := 430, descriptorIndex := 62, attributes := #[] }, { accessFlags := 4120, nameIndex := 46, descriptorIndex := 47, attributes := #[] }])
  fields := #[{ name := "HI_BYTE_SHIFT", type := .int, accessFlags := 26, slot := 0, constantValue := 0 }, { name := "LO_BYTE_SHIFT", type := .int, accessFlags := 26, slot := 1, constantValue := 0 }, { name := "MAX_LENGTH", type := .int, accessFlags := 24, slot := 2, constantValue := 0 }, { name := "$assertionsDisabled", type := .boolean, accessFlags := 4120, slot := 3, constantValue := 0 }]
  methods := #[k9m0, k9m1, k9m2, k9m3]
  instanceTypes := #[]
  staticTypes := #[.int, .int, .int, .boolean]
  resolved := Array.replicate 635 none
  statics := none }

def pool10 : Array CpInfo := pool [(1, .class_ 2), (0, u "java/lang/String"), (1, .class_ 6), (1, u "java/lang/Object"), (0, u "<init>"), (0, u "()V"), (0, .methodref 1 10), (0, .nameAndType 11 12), (0, u "checkIndex"), (0, u "(II)V"), (1, .class_ 16), (1, u "java/lang/StringLatin1"), (36, u "([BI)C"), (36, u "canEncode"), (14, u "(C)Z"), (15, u "$assertionsDisabled"), (0, u "Z"), (98, .class_ 223), (1, u "java/lang/StringLatin1$LinesSpliterator"), (28, u "charAt"), (137, .class_ 391), (0, u "java/lang/StringLatin1$CharsSpliterator")] 3

def k10m0 : Method := { name := "<init>", desc := "()V", sig := { parameters := [], returnType := none }, accessFlags := 0, code := none }
def k10c1 : Code := { maxStack := 2, maxLocals := 2, code := jdk_43_method_2_code, exceptionTable := #[], attributes := #[] }
def k10m1 : Method := { name := "charAt", desc := "([BI)C", sig := { parameters := [(.array .byte), .int], returnType := some .char }, accessFlags := 9, code := some k10c1 }
def k10c2 : Code := { maxStack := 2, maxLocals := 1, code := jdk_43_method_3_code, exceptionTable := #[], attributes := #[] }
def k10m2 : Method := { name := "canEncode", desc := "(C)Z", sig := { parameters := [.char], returnType := some .boolean }, accessFlags := 9, code := some k10c2 }
/-- java/lang/StringLatin1 -/
def k10 : Class := { plain "java/lang/StringLatin1" (some 0) with
  accessFlags := 48
  interfaces := #[]
  cf := some (fileOf pool10 14 #[.nestMembers #[390, 221]] #[{ accessFlags := 0, nameIndex := 7, descriptorIndex := 8, attributes := #[] }, { accessFlags := 9, nameIndex := 252, descriptorIndex := 53, attributes := #[] }, { accessFlags := 9, nameIndex := 90, descriptorIndex := 105, attributes := #[] }] 48 4 #[] #[{ accessFlags := 4120, nameIndex := 121, descriptorIndex := 122, attributes := #[] }])
  fields := #[{ name := "$assertionsDisabled", type := .boolean, accessFlags := 4120, slot := 0, constantValue := 0 }]
  methods := #[k10m0, k10m1, k10m2]
  instanceTypes := #[]
  staticTypes := #[.boolean]
  resolved := Array.replicate 395 none
  statics := none }

def pool11 : Array CpInfo := pool [(2, .class_ 4), (1, u "java/lang/Object"), (0, u "<init>"), (0, u "()V"), (17, .class_ 26), (1, u "jdk/internal/util/Preconditions"), (6, u "checkIndex"), (13, u "checkFromToIndex"), (7, .class_ 56), (0, u "jdk/internal/util/Preconditions$4"), (57, .class_ 115), (0, u "jdk/internal/util/Preconditions$1"), (7, u "SIOOBE_FORMATTER"), (0, u "Ljava/util/function/BiFunction;"), (0, .class_ 126), (0, u "jdk/internal/util/Preconditions$2"), (3, u "AIOOBE_FORMATTER"), (0, .class_ 132), (0, u "jdk/internal/util/Preconditions$3"), (3, u "IOOBE_FORMATTER"), (41, u "(IILjava/util/function/BiFunction;)I"), (4, u "(IIILjava/util/function/BiFunction;)I")] 10

def k11m0 : Method := { name := "<init>", desc := "()V", sig := { parameters := [], returnType := none }, accessFlags := 1, code := none }
def k11c1 : Code := { maxStack := 3, maxLocals := 3, code := jdk_41_method_11_code, exceptionTable := #[], attributes := #[] }
def k11m1 : Method := { name := "checkIndex", desc := "(IILjava/util/function/BiFunction;)I", sig := { parameters := [.int, .int, (.object "java/util/function/BiFunction")], returnType := some .int }, accessFlags := 9, code := some k11c1 }
def k11c2 : Code := { maxStack := 4, maxLocals := 4, code := jdk_41_method_12_code, exceptionTable := #[], attributes := #[] }
def k11m2 : Method := { name := "checkFromToIndex", desc := "(IIILjava/util/function/BiFunction;)I", sig := { parameters := [.int, .int, .int, (.object "java/util/function/BiFunction")], returnType := some .int }, accessFlags := 9, code := some k11c2 }
/-- jdk/internal/util/Preconditions -/
def k11 : Class := { plain "jdk/internal/util/Preconditions" (some 0) with
  accessFlags := 33
  interfaces := #[]
  cf := some (fileOf pool11 24 #[.nestMembers #[55, 131, 125, 114]] #[{ accessFlags := 1, nameIndex := 5, descriptorIndex := 6, attributes := #[] }, { accessFlags := 9, nameIndex := 33, descriptorIndex := 178, attributes := #[] }, { accessFlags := 9, nameIndex := 47, descriptorIndex := 183, attributes := #[] }] 33 2 #[] #[{ accessFlags := 25, nameIndex := 123, descriptorIndex := 124, attributes := #[] }, { accessFlags := 25, nameIndex := 130, descriptorIndex := 124, attributes := #[] }, { accessFlags := 25, nameIndex := 136, descriptorIndex := 124, attributes := #[] }])
  fields := #[{ name := "SIOOBE_FORMATTER", type := (.object "java/util/function/BiFunction"), accessFlags := 25, slot := 0, constantValue := 0 }, { name := "AIOOBE_FORMATTER", type := (.object "java/util/function/BiFunction"), accessFlags := 25, slot := 1, constantValue := 0 }, { name := "IOOBE_FORMATTER", type := (.object "java/util/function/BiFunction"), accessFlags := 25, slot := 2, constantValue := 0 }]
  methods := #[k11m0, k11m1, k11m2]
  instanceTypes := #[]
  staticTypes := #[(.object "java/util/function/BiFunction"), (.object "java/util/function/BiFunction"), (.object "java/util/function/BiFunction")]
  resolved := Array.replicate 194 none
  statics := some 1 }

def pool12 : Array CpInfo := pool [(1, .class_ 2), (0, u "java/lang/Appendable"), (0, .class_ 4), (0, u "java/lang/Object")] 9

/-- java/lang/Appendable -/
def k12 : Class := { plain "java/lang/Appendable" (some 0) with
  accessFlags := 1537
  interfaces := #[]
  cf := some (fileOf pool12 1 #[] #[] 1537 3 #[] #[])
  fields := #[]
  methods := #[]
  instanceTypes := #[]
  staticTypes := #[]
  resolved := Array.replicate 14 none
  statics := none }

def pool13 : Array CpInfo := pool [(1, .class_ 2), (0, u "java/lang/String"), (0, .methodref 4 5), (0, .class_ 6), (0, .nameAndType 7 8), (0, u "java/lang/Object"), (0, u "<init>"), (0, u "()V"), (1, .class_ 12), (1, u "java/lang/AbstractStringBuilder"), (0, u "EMPTYVALUE"), (0, u "[B"), (0, .fieldref 10 16), (0, .nameAndType 17 14), (0, u "value"), (0, .fieldref 1 19), (0, .nameAndType 20 21), (0, u "COMPACT_STRINGS"), (0, u "Z"), (0, .fieldref 10 23), (0, .nameAndType 24 25), (0, u "coder"), (0, u "B"), (7, .nameAndType 34 35), (0, u "length"), (0, u "()I"), (3, .integer 2147483647), (5, u "append"), (1, .interfaceMethodref 48 33), (0, .class_ 49), (0, u "java/lang/CharSequence"), (25, u "maybeLatin1"), (3, .fieldref 10 80), (0, .nameAndType 81 82), (0, u "count"), (0, u "I"), (0, .methodref 10 84), (0, .nameAndType 85 86), (0, u "isLatin1"), (0, u "()Z"), (1, .class_ 90), (1, u "java/lang/StringLatin1"), (9, .methodref 10 101), (0, .nameAndType 102 103), (0, u "ensureCapacityInternal"), (0, u "(I)V"), (0, .methodref 10 105), (0, .nameAndType 106 107), (0, u "newCapacity"), (0, u "(I)I"), (0, .methodref 109 110), (0, .class_ 111), (0, .nameAndType 112 113), (0, u "java/util/Arrays"), (0, u "copyOf"), (0, u "([BI)[B"), (0, .methodref 115 116), (0, .class_ 117), (0, .nameAndType 118 119), (0, u "jdk/internal/util/ArraysSupport"), (0, u "newLength"), (0, u "(III)I"), (41, .methodref 162 163), (0, .class_ 164), (0, .nameAndType 165 166), (0, u "jdk/internal/util/Preconditions"), (0, u "checkFromToIndex"), (0, u "(IIILjava/util/function/BiFunction;)I"), (15, u "Ljava/util/function/BiFunction;"), (0, .fieldref 162 184), (0, .nameAndType 185 182), (0, u "IOOBE_FORMATTER"), (5, .methodref 88 192), (0, .nameAndType 193 194), (0, u "canEncode"), (0, u "(C)Z"), (30, u "(Ljava/lang/CharSequence;II)Ljava/lang/AbstractStringBuilder;"), (6, .methodref 10 233), (0, .nameAndType 234 235), (0, u "appendChars"), (0, u "(Ljava/lang/String;II)V"), (56, u "(C)Ljava/lang/AbstractStringBuilder;"), (16, .methodref 310 311), (0, .class_ 312), (0, .nameAndType 313 314), (0, u "java/lang/System"), (0, u "arraycopy"), (0, u "(Ljava/lang/Object;ILjava/lang/Object;II)V"), (85, .methodref 1 84), (0, .methodref 1 402), (0, .nameAndType 17 403), (0, u "()[B"), (40, .class_ 445), (0, u "java/lang/Appendable"), (106, u "getValue")] 56

def k13m0 : Method := { name := "<init>", desc := "()V", sig := { parameters := [], returnType := none }, accessFlags := 0, code := none }
def k13c1 : Code := { maxStack := 2, maxLocals := 2, code := jdk_68_method_2_code, exceptionTable := #[], attributes := #[] }
def k13m1 : Method := { name := "<init>", desc := "(I)V", sig := { parameters := [.int], returnType := none }, accessFlags := 0, code := some k13c1 }
def k13c2 : Code := { maxStack := 1, maxLocals := 1, code := jdk_68_method_6_code, exceptionTable := #[], attributes := #[] }
def k13m2 : Method := { name := "length", desc := "()I", sig := { parameters := [], returnType := some .int }, accessFlags := 1, code := some k13c2 }
def k13c3 : Code := { maxStack := 4, maxLocals := 3, code := jdk_68_method_9_code, exceptionTable := #[], attributes := #[] }
def k13m3 : Method := { name := "ensureCapacityInternal", desc := "(I)V", sig := { parameters := [.int], returnType := none }, accessFlags := 2, code := some k13c3 }
def k13c4 : Code := { maxStack := 5, maxLocals := 6, code := jdk_68_method_10_code, exceptionTable := #[], attributes := #[] }
def k13m4 : Method := { name := "newCapacity", desc := "(I)I", sig := { parameters := [.int], returnType := some .int }, accessFlags := 2, code := some k13c4 }
def k13c5 : Code := { maxStack := 4, maxLocals := 5, code := jdk_68_method_27_code, exceptionTable := #[], attributes := #[] }
def k13m5 : Method := { name := "append", desc := "(Ljava/lang/CharSequence;II)Ljava/lang/AbstractStringBuilder;", sig := { parameters := [(.object "java/lang/CharSequence"), .int, .int], returnType := some (.object "java/lang/AbstractStringBuilder") }, accessFlags := 1, code := some k13c5 }
def k13c6 : Code := { maxStack := 5, maxLocals := 2, code := jdk_68_method_31_code, exceptionTable := #[], attributes := #[] }
def k13m6 : Method := { name := "append", desc := "(C)Ljava/lang/AbstractStringBuilder;", sig := { parameters := [.char], returnType := some (.object "java/lang/AbstractStringBuilder") }, accessFlags := 1, code := some k13c6 }
def k13c7 : Code := { maxStack := 1, maxLocals := 1, code := jdk_68_method_64_code, exceptionTable := #[], attributes := #[] }
def k13m7 : Method := { name := "getValue", desc := "()[B", sig := { parameters := [], returnType := some (.array .byte) }, accessFlags := 16, code := some k13c7 }
def k13c8 : Code := { maxStack := 1, maxLocals := 1, code := jdk_68_method_68_code, exceptionTable := #[], attributes := #[] }
def k13m8 : Method := { name := "isLatin1", desc := "()Z", sig := { parameters := [], returnType := some .boolean }, accessFlags := 16, code := some k13c8 }
def k13c9 : Code := { maxStack := 6, maxLocals := 8, code := jdk_68_method_75_code, exceptionTable := #[], attributes := #[] }
def k13m9 : Method := { name := "appendChars", desc := "(Ljava/lang/String;II)V", sig := { parameters := [(.object "java/lang/String"), .int, .int], returnType := none }, accessFlags := 18, code := some k13c9 }
/-- java/lang/AbstractStringBuilder -/
def k13 : Class := { plain "java/lang/AbstractStringBuilder" (some 0) with
  accessFlags := 1056
  interfaces := #[12, 4]
  cf := some (fileOf pool13 10 #[] #[{ accessFlags := 0, nameIndex := 7, descriptorIndex := 8, attributes := #[] }, { accessFlags := 0, nameIndex := 7, descriptorIndex := 103, attributes := #[] }, { accessFlags := 1, nameIndex := 34, descriptorIndex := 35, attributes := #[] }, { accessFlags := 2, nameIndex := 102, descriptorIndex := 103, attributes := #[] }, { accessFlags := 2, nameIndex := 106, descriptorIndex := 107, attributes := #[] }, { accessFlags := 1, nameIndex := 45, descriptorIndex := 225, attributes := #[] }, { accessFlags := 1, nameIndex := 45, descriptorIndex := 292, attributes := #[] }, { accessFlags := 16, nameIndex := 552, descriptorIndex := 403, attributes := #[] }, { accessFlags := 16, nameIndex := 85, descriptorIndex := 86, attributes := #[] }, { accessFlags := 18, nameIndex := 234, descriptorIndex := 235, attributes := #[] }] 1056 4 #[444, 48] #[{ accessFlags := 0, nameIndex := 17, descriptorIndex := 14, attributes := #[] }, { accessFlags := 0, nameIndex := 24, descriptorIndex := 25, attributes := #[] }, { accessFlags := 0, nameIndex := 75, descriptorIndex := 21, attributes := #[] }, { accessFlags := 0, nameIndex := 81, descriptorIndex := 82, attributes := #[] }, { accessFlags := 26, nameIndex := 13, descriptorIndex := 14, attributes := #[] }])
  fields := #[{ name := "value", type := (.array .byte), accessFlags := 0, slot := 0, constantValue := 0 }, { name := "coder", type := .byte, accessFlags := 0, slot := 1, constantValue := 0 }, { name := "maybeLatin1", type := .boolean, accessFlags := 0, slot := 2, constantValue := 0 }, { name := "count", type := .int, accessFlags := 0, slot := 3, constantValue := 0 }, { name := "EMPTYVALUE", type := (.array .byte), accessFlags := 26, slot := 0, constantValue := 0 }]
  methods := #[k13m0, k13m1, k13m2, k13m3, k13m4, k13m5, k13m6, k13m7, k13m8, k13m9]
  instanceTypes := #[(.array .byte), .byte, .boolean, .int]
  staticTypes := #[(.array .byte)]
  resolved := Array.replicate 609 none
  statics := none }

def pool14 : Array CpInfo := pool [(1, .methodref 2 3), (0, .class_ 4), (0, .nameAndType 5 6), (0, u "java/lang/AbstractStringBuilder"), (0, u "<init>"), (0, u "(I)V"), (11, .class_ 20), (1, u "java/lang/String"), (3, .class_ 26), (1, u "java/lang/StringBuilder"), (0, u "append"), (10, .methodref 2 39), (0, .nameAndType 27 40), (0, u "(Ljava/lang/CharSequence;II)Ljava/lang/AbstractStringBuilder;"), (9, .methodref 2 51), (0, .nameAndType 27 52), (0, u "(C)Ljava/lang/AbstractStringBuilder;"), (84, .methodref 18 138), (0, .nameAndType 5 139), (0, u "(Ljava/lang/StringBuilder;)V"), (5, u "()V"), (10, u "()I"), (129, u "(C)Ljava/lang/StringBuilder;"), (11, u "(Ljava/lang/CharSequence;II)Ljava/lang/StringBuilder;"), (44, .methodref 2 344), (0, .nameAndType 345 156), (0, u "length"), (3, .class_ 350), (0, u "java/lang/Appendable"), (0, .class_ 352), (0, u "java/io/Serializable"), (0, .class_ 354), (0, u "java/lang/Comparable"), (0, .class_ 356), (0, u "java/lang/CharSequence"), (0, u "serialVersionUID"), (0, u "J"), (40, u "toString"), (0, u "()Ljava/lang/String;")] 21

def k14m0 : Method := { name := "<init>", desc := "()V", sig := { parameters := [], returnType := none }, accessFlags := 1, code := none }
def k14c1 : Code := { maxStack := 2, maxLocals := 2, code := jdk_67_method_2_code, exceptionTable := #[], attributes := #[] }
def k14m1 : Method := { name := "<init>", desc := "(I)V", sig := { parameters := [.int], returnType := none }, accessFlags := 1, code := some k14c1 }
def k14c2 : Code := { maxStack := 4, maxLocals := 4, code := jdk_67_method_10_code, exceptionTable := #[], attributes := #[] }
def k14m2 : Method := { name := "append", desc := "(Ljava/lang/CharSequence;II)Ljava/lang/StringBuilder;", sig := { parameters := [(.object "java/lang/CharSequence"), .int, .int], returnType := some (.object "java/lang/StringBuilder") }, accessFlags := 1, code := some k14c2 }
def k14c3 : Code := { maxStack := 2, maxLocals := 2, code := jdk_67_method_14_code, exceptionTable := #[], attributes := #[] }
def k14m3 : Method := { name := "append", desc := "(C)Ljava/lang/StringBuilder;", sig := { parameters := [.char], returnType := some (.object "java/lang/StringBuilder") }, accessFlags := 1, code := some k14c3 }
def k14c4 : Code := { maxStack := 3, maxLocals := 1, code := jdk_67_method_42_code, exceptionTable := #[], attributes := #[] }
def k14m4 : Method := { name := "toString", desc := "()Ljava/lang/String;", sig := { parameters := [], returnType := some (.object "java/lang/String") }, accessFlags := 1, code := some k14c4 }
def k14c5 : Code := { maxStack := 1, maxLocals := 1, code := jdk_67_method_93_code, exceptionTable := #[], attributes := #[] }
def k14m5 : Method := { name := "length", desc := "()I", sig := { parameters := [], returnType := some .int }, accessFlags := 4161, code := some k14c5 }
/-- java/lang/StringBuilder -/
def k14 : Class := { plain "java/lang/StringBuilder" (some 13) with
  accessFlags := 49
  interfaces := #[12, 2, 3, 4]
  cf := some (fileOf pool14 24 #[] #[{ accessFlags := 1, nameIndex := 5, descriptorIndex := 145, attributes := #[] }, { accessFlags := 1, nameIndex := 5, descriptorIndex := 6, attributes := #[] }, { accessFlags := 1, nameIndex := 27, descriptorIndex := 298, attributes := #[] }, { accessFlags := 1, nameIndex := 27, descriptorIndex := 286, attributes := #[] }, { accessFlags := 1, nameIndex := 399, descriptorIndex := 400, attributes := #[] }, { accessFlags := 4161, nameIndex := 345, descriptorIndex := 156, attributes := #[] }] 49 2 #[349, 351, 353, 355] #[{ accessFlags := 24, nameIndex := 357, descriptorIndex := 358, attributes := #[] }])
  fields := #[{ name := "serialVersionUID", type := .long, accessFlags := 24, slot := 0, constantValue := 0 }]
  methods := #[k14m0, k14m1, k14m2, k14m3, k14m4, k14m5]
  instanceTypes := #[(.array .byte), .byte, .boolean, .int]
  staticTypes := #[.long]
  resolved := Array.replicate 422 none
  statics := none }

def pool15 : Array CpInfo := pool [(2, .class_ 4), (1, u "java/lang/Object"), (0, u "<init>"), (0, u "()V"), (1, .class_ 10), (1, u "java/lang/System"), (0, u "allowSecurityManager"), (0, u "I"), (16, u "cons"), (0, u "Ljava/io/Console;"), (77, .class_ 110), (1, u "java/lang/System$CallersHolder"), (43, u "initialErrStream"), (0, u "Ljava/io/PrintStream;"), (19, u "security"), (0, u "Ljava/lang/SecurityManager;"), (31, .class_ 209), (0, u "java/lang/System$1"), (7, u "props"), (0, u "Ljava/util/Properties;"), (2, u "lineSeparator"), (0, u "Ljava/lang/String;"), (96, .class_ 321), (1, u "java/lang/System$LoggerFinder"), (5, .class_ 328), (0, u "java/lang/System$Logger"), (67, u "err"), (2, u "out"), (91, u "notSupportedJnuEncoding"), (15, u "in"), (17, u "initialIn"), (0, u "Ljava/io/InputStream;"), (35, u "bootLayer"), (0, u "Ljava/lang/ModuleLayer;"), (99, .class_ 664), (0, u "java/lang/System$2"), (9, u "NEVER"), (2, u "MAYBE"), (49, u "arraycopy"), (0, u "(Ljava/lang/Object;ILjava/lang/Object;II)V"), (72, .class_ 802), (0, u "java/lang/System$Logger$Level")] 31

def k15m0 : Method := { name := "<init>", desc := "()V", sig := { parameters := [], returnType := none }, accessFlags := 2, code := none }
def k15m1 : Method := { name := "arraycopy", desc := "(Ljava/lang/Object;ILjava/lang/Object;II)V", sig := { parameters := [(.object "java/lang/Object"), .int, (.object "java/lang/Object"), .int, .int], returnType := none }, accessFlags := 265, code := none }
/-- java/lang/System -/
def k15 : Class := { plain "java/lang/System" (some 0) with
  accessFlags := 49
  interfaces := #[]
  cf := some (fileOf pool15 8 #[.nestMembers #[319, 327, 801, 108, 663, 208]] #[{ accessFlags := 2, nameIndex := 5, descriptorIndex := 6, attributes := #[] }, { accessFlags := 265, nameIndex := 727, descriptorIndex := 728, attributes := #[] }] 49 2 #[] #[{ accessFlags := 25, nameIndex := 507, descriptorIndex := 526, attributes := #[] }, { accessFlags := 25, nameIndex := 399, descriptorIndex := 155, attributes := #[] }, { accessFlags := 25, nameIndex := 396, descriptorIndex := 155, attributes := #[] }, { accessFlags := 10, nameIndex := 525, descriptorIndex := 526, attributes := #[] }, { accessFlags := 26, nameIndex := 674, descriptorIndex := 12, attributes := #[] }, { accessFlags := 26, nameIndex := 677, descriptorIndex := 12, attributes := #[] }, { accessFlags := 10, nameIndex := 11, descriptorIndex := 12, attributes := #[] }, { accessFlags := 74, nameIndex := 175, descriptorIndex := 176, attributes := #[] }, { accessFlags := 10, nameIndex := 491, descriptorIndex := 222, attributes := #[] }, { accessFlags := 74, nameIndex := 29, descriptorIndex := 30, attributes := #[] }, { accessFlags := 74, nameIndex := 154, descriptorIndex := 155, attributes := #[] }, { accessFlags := 10, nameIndex := 217, descriptorIndex := 218, attributes := #[] }, { accessFlags := 10, nameIndex := 221, descriptorIndex := 222, attributes := #[] }, { accessFlags := 8, nameIndex := 562, descriptorIndex := 563, attributes := #[] }])
  fields := #[{ name := "in", type := (.object "java/io/InputStream"), accessFlags := 25, slot := 0, constantValue := 0 }, { name := "out", type := (.object "java/io/PrintStream"), accessFlags := 25, slot := 1, constantValue := 0 }, { name := "err", type := (.object "java/io/PrintStream"), accessFlags := 25, slot := 2, constantValue := 0 }, { name := "initialIn", type := (.object "java/io/InputStream"), accessFlags := 10, slot := 3, constantValue := 0 }, { name := "NEVER", type := .int, accessFlags := 26, slot := 4, constantValue := 0 }, { name := "MAYBE", type := .int, accessFlags := 26, slot := 5, constantValue := 0 }, { name := "allowSecurityManager", type := .int, accessFlags := 10, slot := 6, constantValue := 0 }, { name := "security", type := (.object "java/lang/SecurityManager"), accessFlags := 74, slot := 7, constantValue := 0 }, { name := "notSupportedJnuEncoding", type := (.object "java/lang/String"), accessFlags := 10, slot := 8, constantValue := 0 }, { name := "cons", type := (.object "java/io/Console"), accessFlags := 74, slot := 9, constantValue := 0 }, { name := "initialErrStream", type := (.object "java/io/PrintStream"), accessFlags := 74, slot := 10, constantValue := 0 }, { name := "props", type := (.object "java/util/Properties"), accessFlags := 10, slot := 11, constantValue := 0 }, { name := "lineSeparator", type := (.object "java/lang/String"), accessFlags := 10, slot := 12, constantValue := 0 }, { name := "bootLayer", type := (.object "java/lang/ModuleLayer"), accessFlags := 8, slot := 13, constantValue := 0 }]
  methods := #[k15m0, k15m1]
  instanceTypes := #[]
  staticTypes := #[(.object "java/io/InputStream"), (.object "java/io/PrintStream"), (.object "java/io/PrintStream"), (.object "java/io/InputStream"), .int, .int, .int, (.object "java/lang/SecurityManager"), (.object "java/lang/String"), (.object "java/io/Console"), (.object "java/io/PrintStream"), (.object "java/util/Properties"), (.object "java/lang/String"), (.object "java/lang/ModuleLayer")]
  resolved := Array.replicate 834 none
  statics := none }

def pool16 : Array CpInfo := pool [(2, .class_ 4), (1, u "java/lang/Object"), (0, u "<init>"), (0, u "()V"), (7, .class_ 16), (1, u "java/util/Arrays"), (57, .class_ 76), (1, u "java/util/Arrays$NaturalOrder"), (32, u "()Ljava/lang/Object;"), (3, .class_ 115), (1, u "java/util/Arrays$LegacyMergeSort"), (1, u "Z"), (10, .nameAndType 129 109), (0, u "clone"), (9, u "copyOfRange"), (10, .methodref 151 152), (0, .class_ 153), (0, .nameAndType 154 155), (0, u "java/lang/System"), (0, u "arraycopy"), (0, u "(Ljava/lang/Object;ILjava/lang/Object;II)V"), (146, u "copyOf"), (1, .methodref 305 306), (0, .class_ 307), (0, .nameAndType 308 309), (0, u "java/lang/Math"), (0, u "min"), (0, u "(II)I"), (0, .methodref 311 128), (0, .class_ 312), (0, u "[B"), (26, .methodref 14 340), (0, .nameAndType 341 342), (0, u "copyOfRangeByte"), (0, u "([BII)[B"), (0, .methodref 14 344), (0, .nameAndType 345 346), (0, u "checkLength"), (0, u "(II)V"), (28, .class_ 376), (0, u "java/util/Arrays$ArrayList"), (68, u "$assertionsDisabled"), (269, u "MIN_ARRAY_SORT_GRAN"), (0, u "I"), (2, u "INSERTIONSORT_THRESHOLD"), (149, u "([BI)[B"), (105, .class_ 976), (0, u "java/util/Arrays$ArrayItr")] 52

def k16m0 : Method := { name := "<init>", desc := "()V", sig := { parameters := [], returnType := none }, accessFlags := 2, code := none }
def k16c1 : Code := { maxStack := 6, maxLocals := 3, code := jdk_65_method_121_code, exceptionTable := #[], attributes := #[] }
def k16m1 : Method := { name := "copyOf", desc := "([BI)[B", sig := { parameters := [(.array .byte), .int], returnType := some (.array .byte) }, accessFlags := 9, code := some k16c1 }
def k16c2 : Code := { maxStack := 4, maxLocals := 2, code := jdk_65_method_131_code, exceptionTable := #[], attributes := #[] }
def k16m2 : Method := { name := "checkLength", desc := "(II)V", sig := { parameters := [.int, .int], returnType := none }, accessFlags := 10, code := some k16c2 }
def k16c3 : Code := { maxStack := 3, maxLocals := 3, code := jdk_65_method_132_code, exceptionTable := #[], attributes := #[] }
def k16m3 : Method := { name := "copyOfRange", desc := "([BII)[B", sig := { parameters := [(.array .byte), .int, .int], returnType := some (.array .byte) }, accessFlags := 9, code := some k16c3 }
def k16c4 : Code := { maxStack := 6, maxLocals := 5, code := jdk_65_method_133_code, exceptionTable := #[], attributes := #[] }
def k16m4 : Method := { name := "copyOfRangeByte", desc := "([BII)[B", sig := { parameters := [(.array .byte), .int, .int], returnType := some (.array .byte) }, accessFlags := 10, code := some k16c4 }
/-- java/util/Arrays -/
def k16 : Class := { plain "java/util/Arrays" (some 0) with
  accessFlags := 49
  interfaces := #[]
  cf := some (fileOf pool16 14 #[.nestMembers #[975, 375, 113, 74]] #[{ accessFlags := 2, nameIndex := 5, descriptorIndex := 6, attributes := #[] }, { accessFlags := 9, nameIndex := 302, descriptorIndex := 869, attributes := #[] }, { accessFlags := 10, nameIndex := 345, descriptorIndex := 346, attributes := #[] }, { accessFlags := 9, nameIndex := 139, descriptorIndex := 342, attributes := #[] }, { accessFlags := 10, nameIndex := 341, descriptorIndex := 342, attributes := #[] }] 49 2 #[] #[{ accessFlags := 26, nameIndex := 715, descriptorIndex := 716, attributes := #[] }, { accessFlags := 26, nameIndex := 719, descriptorIndex := 716, attributes := #[] }, { accessFlags := 4120, nameIndex := 445, descriptorIndex := 117, attributes := #[] }])
  fields := #[{ name := "MIN_ARRAY_SORT_GRAN", type := .int, accessFlags := 26, slot := 0, constantValue := 0 }, { name := "INSERTIONSORT_THRESHOLD", type := .int, accessFlags := 26, slot := 1, constantValue := 0 }, { name := "$assertionsDisabled", type := .boolean, accessFlags := 4120, slot := 2, constantValue := 0 }]
  methods := #[k16m0, k16m1, k16m2, k16m3, k16m4]
  instanceTypes := #[]
  staticTypes := #[.int, .int, .boolean]
  resolved := Array.replicate 1029 none
  statics := none }

def pool17 : Array CpInfo := pool [(1, .class_ 2), (0, u "java/lang/Cloneable"), (0, .class_ 4), (0, u "java/lang/Object")] 2

/-- java/lang/Cloneable -/
def k17 : Class := { plain "java/lang/Cloneable" (some 0) with
  accessFlags := 1537
  interfaces := #[]
  cf := some (fileOf pool17 1 #[] #[] 1537 3 #[] #[])
  fields := #[]
  methods := #[]
  instanceTypes := #[]
  staticTypes := #[]
  resolved := Array.replicate 7 none
  statics := none }

def pool18 : Array CpInfo := pool [(9, u "<init>"), (6, .class_ 18), (1, u "java/lang/Object"), (0, u "()V"), (1, .class_ 23), (1, u "jdk/internal/util/ArraysSupport"), (0, u "LOG2_ARRAY_LONG_INDEX_SCALE"), (0, u "I"), (2, u "U"), (0, u "Ljdk/internal/misc/Unsafe;"), (8, u "BIG_ENDIAN"), (0, u "Z"), (8, u "LOG2_BYTE_BIT_SIZE"), (4, u "LOG2_ARRAY_INT_INDEX_SCALE"), (54, u "JLA"), (0, u "Ljdk/internal/access/JavaLangAccess;"), (11, u "LOG2_ARRAY_BOOLEAN_INDEX_SCALE"), (9, u "LOG2_ARRAY_BYTE_INDEX_SCALE"), (5, u "LOG2_ARRAY_CHAR_INDEX_SCALE"), (5, u "LOG2_ARRAY_SHORT_INDEX_SCALE"), (18, u "LOG2_ARRAY_FLOAT_INDEX_SCALE"), (24, u "LOG2_ARRAY_DOUBLE_INDEX_SCALE"), (6, .methodref 195 196), (0, .class_ 197), (0, .nameAndType 198 199), (0, u "java/lang/Math"), (0, u "max"), (0, u "(II)I"), (0, .integer 2147483639), (76, u "T_BOOLEAN"), (2, u "T_CHAR"), (1, u "T_FLOAT"), (1, u "T_DOUBLE"), (1, u "T_BYTE"), (1, u "T_SHORT"), (1, u "T_INT"), (1, u "T_LONG"), (1, u "SOFT_MAX_ARRAY_LENGTH"), (56, u "newLength"), (0, u "(III)I")] 25

def k18m0 : Method := { name := "<init>", desc := "()V", sig := { parameters := [], returnType := none }, accessFlags := 2, code := none }
def k18c1 : Code := { maxStack := 3, maxLocals := 4, code := jdk_48_method_27_code, exceptionTable := #[], attributes := #[] }
def k18m1 : Method := { name := "newLength", desc := "(III)I", sig := { parameters := [.int, .int, .int], returnType := some .int }, accessFlags := 9, code := some k18c1 }
/-- jdk/internal/util/ArraysSupport -/
def k18 : Class := { plain "jdk/internal/util/ArraysSupport" (some 0) with
  accessFlags := 33
  interfaces := #[]
  cf := some (fileOf pool18 21 #[] #[{ accessFlags := 2, nameIndex := 9, descriptorIndex := 19, attributes := #[] }, { accessFlags := 9, nameIndex := 351, descriptorIndex := 352, attributes := #[] }] 33 16 #[] #[{ accessFlags := 24, nameIndex := 28, descriptorIndex := 29, attributes := #[] }, { accessFlags := 26, nameIndex := 38, descriptorIndex := 39, attributes := #[] }, { accessFlags := 25, nameIndex := 121, descriptorIndex := 25, attributes := #[] }, { accessFlags := 25, nameIndex := 131, descriptorIndex := 25, attributes := #[] }, { accessFlags := 25, nameIndex := 137, descriptorIndex := 25, attributes := #[] }, { accessFlags := 25, nameIndex := 143, descriptorIndex := 25, attributes := #[] }, { accessFlags := 25, nameIndex := 53, descriptorIndex := 25, attributes := #[] }, { accessFlags := 25, nameIndex := 24, descriptorIndex := 25, attributes := #[] }, { accessFlags := 25, nameIndex := 162, descriptorIndex := 25, attributes := #[] }, { accessFlags := 25, nameIndex := 187, descriptorIndex := 25, attributes := #[] }, { accessFlags := 26, nameIndex := 48, descriptorIndex := 25, attributes := #[] }, { accessFlags := 25, nameIndex := 277, descriptorIndex := 25, attributes := #[] }, { accessFlags := 25, nameIndex := 280, descriptorIndex := 25, attributes := #[] }, { accessFlags := 25, nameIndex := 282, descriptorIndex := 25, attributes := #[] }, { accessFlags := 25, nameIndex := 284, descriptorIndex := 25, attributes := #[] }, { accessFlags := 25, nameIndex := 286, descriptorIndex := 25, attributes := #[] }, { accessFlags := 25, nameIndex := 288, descriptorIndex := 25, attributes := #[] }, { accessFlags := 25, nameIndex := 290, descriptorIndex := 25, attributes := #[] }, { accessFlags := 25, nameIndex := 292, descriptorIndex := 25, attributes := #[] }, { accessFlags := 26, nameIndex := 108, descriptorIndex := 109, attributes := #[] }, { accessFlags := 25, nameIndex := 294, descriptorIndex := 25, attributes := #[] }])
  fields := #[{ name := "U", type := (.object "jdk/internal/misc/Unsafe"), accessFlags := 24, slot := 0, constantValue := 0 }, { name := "BIG_ENDIAN", type := .boolean, accessFlags := 26, slot := 1, constantValue := 0 }, { name := "LOG2_ARRAY_BOOLEAN_INDEX_SCALE", type := .int, accessFlags := 25, slot := 2, constantValue := 0 }, { name := "LOG2_ARRAY_BYTE_INDEX_SCALE", type := .int, accessFlags := 25, slot := 3, constantValue := 0 }, { name := "LOG2_ARRAY_CHAR_INDEX_SCALE", type := .int, accessFlags := 25, slot := 4, constantValue := 0 }, { name := "LOG2_ARRAY_SHORT_INDEX_SCALE", type := .int, accessFlags := 25, slot := 5, constantValue := 0 }, { name := "LOG2_ARRAY_INT_INDEX_SCALE", type := .int, accessFlags := 25, slot := 6, constantValue := 0 }, { name := "LOG2_ARRAY_LONG_INDEX_SCALE", type := .int, accessFlags := 25, slot := 7, constantValue := 0 }, { name := "LOG2_ARRAY_FLOAT_INDEX_SCALE", type := .int, accessFlags := 25, slot := 8, constantValue := 0 }, { name := "LOG2_ARRAY_DOUBLE_INDEX_SCALE", type := .int, accessFlags := 25, slot := 9, constantValue := 0 }, { name := "LOG2_BYTE_BIT_SIZE", type := .int, accessFlags := 26, slot := 10, constantValue := 0 }, { name := "T_BOOLEAN", type := .int, accessFlags := 25, slot := 11, constantValue := 0 }, { name := "T_CHAR", type := .int, accessFlags := 25, slot := 12, constantValue := 0 }, { name := "T_FLOAT", type := .int, accessFlags := 25, slot := 13, constantValue := 0 }, { name := "T_DOUBLE", type := .int, accessFlags := 25, slot := 14, constantValue := 0 }, { name := "T_BYTE", type := .int, accessFlags := 25, slot := 15, constantValue := 0 }, { name := "T_SHORT", type := .int, accessFlags := 25, slot := 16, constantValue := 0 }, { name := "T_INT", type := .int, accessFlags := 25, slot := 17, constantValue := 0 }, { name := "T_LONG", type := .int, accessFlags := 25, slot := 18, constantValue := 0 }, { name := "JLA", type := (.object "jdk/internal/access/JavaLangAccess"), accessFlags := 26, slot := 19, constantValue := 0 }, { name := "SOFT_MAX_ARRAY_LENGTH", type := .int, accessFlags := 25, slot := 20, constantValue := 0 }]
  methods := #[k18m0, k18m1]
  instanceTypes := #[]
  staticTypes := #[(.object "jdk/internal/misc/Unsafe"), .boolean, .int, .int, .int, .int, .int, .int, .int, .int, .int, .int, .int, .int, .int, .int, .int, .int, .int, (.object "jdk/internal/access/JavaLangAccess"), .int]
  resolved := Array.replicate 378 none
  statics := none }

def pool19 : Array CpInfo := pool [(1, .class_ 2), (0, u "java/lang/Math"), (1, .class_ 6), (1, u "java/lang/Object"), (0, u "<init>"), (0, u "()V"), (89, .class_ 100), (1, u "java/lang/Math$RandomNumberGeneratorHolder"), (71, u "negativeZeroFloatBits"), (0, u "J"), (2, u "negativeZeroDoubleBits"), (21, u "max"), (2, u "min"), (43, u "$assertionsDisabled"), (0, u "Z"), (88, u "(II)I"), (2, u "twoToTheDoubleScaleDown"), (0, u "D"), (4, u "twoToTheDoubleScaleUp"), (9, u "E"), (3, u "PI"), (2, u "TAU"), (2, u "DEGREES_TO_RADIANS"), (0, u "RADIANS_TO_DEGREES")] 94

def k19m0 : Method := { name := "<init>", desc := "()V", sig := { parameters := [], returnType := none }, accessFlags := 2, code := none }
def k19c1 : Code := { maxStack := 2, maxLocals := 2, code := jdk_29_method_65_code, exceptionTable := #[], attributes := #[] }
def k19m1 : Method := { name := "max", desc := "(II)I", sig := { parameters := [.int, .int], returnType := some .int }, accessFlags := 9, code := some k19c1 }
def k19c2 : Code := { maxStack := 2, maxLocals := 2, code := jdk_29_method_69_code, exceptionTable := #[], attributes := #[] }
def k19m2 : Method := { name := "min", desc := "(II)I", sig := { parameters := [.int, .int], returnType := some .int }, accessFlags := 9, code := some k19c2 }
/-- java/lang/Math -/
def k19 : Class := { plain "java/lang/Math" (some 0) with
  accessFlags := 49
  interfaces := #[]
  cf := some (fileOf pool19 1 #[.nestMembers #[98]] #[{ accessFlags := 2, nameIndex := 7, descriptorIndex := 8, attributes := #[] }, { accessFlags := 9, nameIndex := 198, descriptorIndex := 335, attributes := #[] }, { accessFlags := 9, nameIndex := 201, descriptorIndex := 335, attributes := #[] }] 49 4 #[] #[{ accessFlags := 25, nameIndex := 354, descriptorIndex := 339, attributes := #[] }, { accessFlags := 25, nameIndex := 358, descriptorIndex := 339, attributes := #[] }, { accessFlags := 25, nameIndex := 361, descriptorIndex := 339, attributes := #[] }, { accessFlags := 26, nameIndex := 364, descriptorIndex := 339, attributes := #[] }, { accessFlags := 26, nameIndex := 365, descriptorIndex := 339, attributes := #[] }, { accessFlags := 26, nameIndex := 172, descriptorIndex := 173, attributes := #[] }, { accessFlags := 26, nameIndex := 176, descriptorIndex := 173, attributes := #[] }, { accessFlags := 8, nameIndex := 344, descriptorIndex := 339, attributes := #[] }, { accessFlags := 8, nameIndex := 338, descriptorIndex := 339, attributes := #[] }, { accessFlags := 4120, nameIndex := 245, descriptorIndex := 246, attributes := #[] }])
  fields := #[{ name := "E", type := .double, accessFlags := 25, slot := 0, constantValue := 0 }, { name := "PI", type := .double, accessFlags := 25, slot := 1, constantValue := 0 }, { name := "TAU", type := .double, accessFlags := 25, slot := 2, constantValue := 0 }, { name := "DEGREES_TO_RADIANS", type := .double, accessFlags := 26, slot := 3, constantValue := 0 }, { name := "RADIANS_TO_DEGREES", type := .double, accessFlags := 26, slot := 4, constantValue := 0 }, { name := "negativeZeroFloatBits", type := .long, accessFlags := 26, slot := 5, constantValue := 0 }, { name := "negativeZeroDoubleBits", type := .long, accessFlags := 26, slot := 6, constantValue := 0 }, { name := "twoToTheDoubleScaleUp", type := .double, accessFlags := 8, slot := 7, constantValue := 0 }, { name := "twoToTheDoubleScaleDown", type := .double, accessFlags := 8, slot := 8, constantValue := 0 }, { name := "$assertionsDisabled", type := .boolean, accessFlags := 4120, slot := 9, constantValue := 0 }]
  methods := #[k19m0, k19m1, k19m2]
  instanceTypes := #[]
  staticTypes := #[.double, .double, .double, .double, .double, .long, .long, .double, .double, .boolean]
  resolved := Array.replicate 460 none
  statics := none }

/-- the primitive byte -/
def k20 : Class := { plain "byte" none with kind := .primitive 'B', accessFlags := 0x411 }
/-- [B -/
def k21 : Class := { plain "[B" (some 0) with kind := .array 20 .byte, interfaces := #[17, 2], accessFlags := 1041 }

/-- the primitive char -/
def k22 : Class := { plain "char" none with kind := .primitive 'C', accessFlags := 0x411 }
/-- [C -/
def k23 : Class := { plain "[C" (some 0) with kind := .array 22 .char, interfaces := #[17, 2], accessFlags := 1041 }

/-- the primitive int -/
def k24 : Class := { plain "int" none with kind := .primitive 'I', accessFlags := 0x411 }
/-- [I -/
def k25 : Class := { plain "[I" (some 0) with kind := .array 24 .int, interfaces := #[17, 2], accessFlags := 1041 }

def heap : Heap := #[{ cls := 7, slots := #[.long 0, .int 1, .null, .int 0, .null, .int 0, .int 0], vm := .statics 7 },
  { cls := 11, slots := #[.null, .null, .null], vm := .statics 11 }]
def classes : Array Class := #[k0, k1, k2, k3, k4, k5, k6, k7, k8, k9, k10, k11, k12, k13, k14, k15, k16, k17, k18, k19, k20, k21, k22, k23, k24, k25]
def interned : List (Array UInt16 × Addr) := []
def slotsUsed : Nat := 10
def theMethod : MethodId := ⟨1, 6⟩
def args0 : Array Value := #[.int 2, .int 0, .int 44, .int 7, .int 7]
def aboutOver (below : List Frame) : State where
  vm := { classes := classes, interned := interned.toArray }
  heap := heap
  slotsUsed := slotsUsed
  threads := #[{ frames := .invoking theMethod args0 :: below }]
def below0 : List Frame := [.native { method := ⟨0, 0⟩, args := #[] }]
def about1 : State := aboutOver below0
def p0 : Program := .bare "" "" ""
def e0 : Env := launch0.env 0 0 0
theorem w_frames : about1.frames = Frame.invoking theMethod args0 :: below0 := rfl
set_option maxRecDepth 65536 in
theorem w_args : argsFit about1.vm theMethod args0 = true := by decide +kernel
set_option maxRecDepth 65536 in
theorem w_heap : heapFits about1 = true := by decide +kernel
set_option maxRecDepth 65536 in
theorem w_runnable : about1.curStatus? = some .runnable := by decide +kernel
set_option maxRecDepth 65536 in
theorem w_alone : about1.alone = true := by decide +kernel
set_option maxRecDepth 65536 in
theorem w_named : about1.methodNamed? x = some theMethod := by decide +kernel
set_option maxRecDepth 65536 in
theorem w_hears : about1.hears theMethod below0 = true := by decide +kernel
set_option maxRecDepth 65536 in
theorem w_ripe : about1.ripe theMethod args0 below0 = true := by decide +kernel
theorem w_running : about1.status = .running := rfl
set_option maxRecDepth 65536 in
theorem w_room : about1.hasRoom e0.platform room_1 = true :=
  launch0.hasRoom_least _ room_1 (by decide +kernel) (by decide +kernel) (by decide +kernel) (by decide +kernel) (by decide +kernel) (by decide +kernel)
theorem allAtoms_all (ts : List Jvm.Cond) (a : Array Jvm.Value) (st : Jvm.State) : (allAtoms ts).before a st = ts.all (fun c => c.before a st) := by
  induction ts with
  | nil => rfl
  | cons c t ih =>
    show (Jvm.Cond.and c (allAtoms t)).before a st = _
    rw [Jvm.Cond.before_and, ih, List.all_cons]
def words1 : List Jvm.Cond := Jvm.Cond.code x code maxLocals ret :: tables_1
/-- a 'code' word, met by the world's own term for the bytes: nothing is compared byte by byte -/
theorem code_word {y : MethodName} {bytes : ByteArray} {mx : Nat} {rt : Option FieldType} {a : Array Value} {s : State} {m : MethodId} {meth : Method} {c : Code} (h1 : s.methodNamed? y = some m) (h2 : s.vm.method? m = some meth) (h3 : meth.code = some c) (h4 : c.code = bytes)
    (h5 : (c.maxLocals == mx && c.exceptionTable.isEmpty && decide (c.maxStack ≤ mostOperands) && decide (meth.sig.returnType = rt) && !meth.locks && decide (parseMethodDescriptor y.desc = some meth.sig)) = true) : (Jvm.Cond.code y bytes mx rt).before a s = true := by
  simp only [Bool.and_eq_true, beq_iff_eq, Bool.not_eq_true', decide_eq_true_eq] at h5
  obtain ⟨⟨⟨⟨⟨g1, g2⟩, g3⟩, g4⟩, g5⟩, g6⟩ := h5
  simp [Cond.before, Cond.holds, Cond.value, h1, h2, h3, h4, g1, g2, g3, g4, g5, g6]
def isCode : Jvm.Cond → Bool
  | .code _ _ _ _ => true
  | _ => false
theorem all_split {L : List Jvm.Cond} {P : Jvm.Cond → Bool} (h1 : L.all (fun c => isCode c || P c) = true) (h2 : ∀ c ∈ L.filter isCode, P c = true) : L.all P = true := by
  refine List.all_eq_true.mpr fun c hc => ?_
  have h := List.all_eq_true.mp h1 c hc
  rcases Bool.eq_false_or_eq_true (isCode c) with hi | hi
  · exact h2 c (List.mem_filter.mpr ⟨hc, hi⟩)
  · simpa [hi] using h
set_option maxRecDepth 65536 in
theorem w_c0 : (Jvm.Cond.code x code maxLocals ret).before args0 about1 = true := code_word (m := ⟨1, 6⟩) (meth := k1m6) (c := k1c6) (by decide +kernel) rfl rfl rfl (by decide +kernel)
set_option maxRecDepth 65536 in
theorem w_c1 : (Jvm.Cond.code ({ cls := "com/example/attestor/attestor/interpolation/MessageTemplateEscapePinLaw", name := "draw", desc := "(I)C" } : Jvm.MethodName) method_2_code (2 : Nat) (Option.some Jvm.ClassFile.FieldType.char)).before args0 about1 = true := code_word (m := ⟨1, 1⟩) (meth := k1m1) (c := k1c1) (by decide +kernel) rfl rfl rfl (by decide +kernel)
set_option maxRecDepth 65536 in
theorem w_c2 : (Jvm.Cond.code ({ cls := "com/example/attestor/attestor/interpolation/MessageTemplateEscapePinLaw", name := "make", desc := "(ICCCC)Ljava/lang/String;" } : Jvm.MethodName) method_5_code (5 : Nat) (Option.some (Jvm.ClassFile.FieldType.object "java/lang/String"))).before args0 about1 = true := code_word (m := ⟨1, 4⟩) (meth := k1m4) (c := k1c4) (by decide +kernel) rfl rfl rfl (by decide +kernel)
set_option maxRecDepth 65536 in
theorem w_c3 : (Jvm.Cond.code ({ cls := "java/lang/String", name := "<init>", desc := "([C)V" } : Jvm.MethodName) jdk_42_method_3_code (2 : Nat) (Option.none : Option Jvm.ClassFile.FieldType)).before args0 about1 = true := code_word (m := ⟨7, 1⟩) (meth := k7m1) (c := k7c1) (by decide +kernel) rfl rfl rfl (by decide +kernel)
set_option maxRecDepth 65536 in
theorem w_c4 : (Jvm.Cond.code ({ cls := "java/lang/String", name := "<init>", desc := "([CIILjava/lang/Void;)V" } : Jvm.MethodName) jdk_42_method_149_code (6 : Nat) (Option.none : Option Jvm.ClassFile.FieldType)).before args0 about1 = true := code_word (m := ⟨7, 5⟩) (meth := k7m5) (c := k7c5) (by decide +kernel) rfl rfl rfl (by decide +kernel)
set_option maxRecDepth 65536 in
theorem w_c5 : (Jvm.Cond.code ({ cls := "java/lang/Object", name := "<init>", desc := "()V" } : Jvm.MethodName) object_method_1_code (1 : Nat) (Option.none : Option Jvm.ClassFile.FieldType)).before args0 about1 = true := code_word (m := ⟨0, 0⟩) (meth := k0m0) (c := k0c0) (by decide +kernel) rfl rfl rfl (by decide +kernel)
set_option maxRecDepth 65536 in
theorem w_c6 : (Jvm.Cond.code ({ cls := "com/example/attestor/attestor/interpolation/MessageTemplate", name := "escape", desc := "(Ljava/lang/String;)Ljava/lang/String;" } : Jvm.MethodName) prog_7_method_5_code (4 : Nat) (Option.some (Jvm.ClassFile.FieldType.object "java/lang/String"))).before args0 about1 = true := code_word (m := ⟨8, 1⟩) (meth := k8m1) (c := k8c1) (by decide +kernel) rfl rfl rfl (by decide +kernel)
set_option maxRecDepth 65536 in
theorem w_c7 : (Jvm.Cond.code ({ cls := "java/lang/String", name := "length", desc := "()I" } : Jvm.MethodName) jdk_42_method_54_code (1 : Nat) (Option.some Jvm.ClassFile.FieldType.int)).before args0 about1 = true := code_word (m := ⟨7, 3⟩) (meth := k7m3) (c := k7c3) (by decide +kernel) rfl rfl rfl (by decide +kernel)
set_option maxRecDepth 65536 in
theorem w_c8 : (Jvm.Cond.code ({ cls := "java/lang/String", name := "coder", desc := "()B" } : Jvm.MethodName) jdk_42_method_152_code (1 : Nat) (Option.some Jvm.ClassFile.FieldType.byte)).before args0 about1 = true := code_word (m := ⟨7, 7⟩) (meth := k7m7) (c := k7c7) (by decide +kernel) rfl rfl rfl (by decide +kernel)
set_option maxRecDepth 65536 in
theorem w_c9 : (Jvm.Cond.code ({ cls := "com/example/attestor/attestor/interpolation/MessageTemplateEscapePinLaw", name := "at", desc := "(Ljava/lang/String;[CII)Z" } : Jvm.MethodName) method_6_code (4 : Nat) (Option.some Jvm.ClassFile.FieldType.boolean)).before args0 about1 = true := code_word (m := ⟨1, 5⟩) (meth := k1m5) (c := k1c5) (by decide +kernel) rfl rfl rfl (by decide +kernel)
set_option maxRecDepth 65536 in
theorem w_c10 : (Jvm.Cond.code ({ cls := "java/lang/StringUTF16", name := "compress", desc := "([CII)[B" } : Jvm.MethodName) jdk_52_method_16_code (6 : Nat) (Option.some (Jvm.ClassFile.FieldType.array Jvm.ClassFile.FieldType.byte))).before args0 about1 = true := code_word (m := ⟨9, 2⟩) (meth := k9m2) (c := k9c2) (by decide +kernel) rfl rfl rfl (by decide +kernel)
set_option maxRecDepth 65536 in
theorem w_c11 : (Jvm.Cond.code ({ cls := "java/lang/StringUTF16", name := "compress", desc := "([CI[BII)I" } : Jvm.MethodName) jdk_52_method_21_code (7 : Nat) (Option.some Jvm.ClassFile.FieldType.int)).before args0 about1 = true := code_word (m := ⟨9, 3⟩) (meth := k9m3) (c := k9c3) (by decide +kernel) rfl rfl rfl (by decide +kernel)
set_option maxRecDepth 65536 in
theorem w_c12 : (Jvm.Cond.code ({ cls := "java/lang/StringUTF16", name := "coderFromArrayLen", desc := "([BI)B" } : Jvm.MethodName) jdk_52_method_15_code (2 : Nat) (Option.some Jvm.ClassFile.FieldType.byte)).before args0 about1 = true := code_word (m := ⟨9, 1⟩) (meth := k9m1) (c := k9c1) (by decide +kernel) rfl rfl rfl (by decide +kernel)
set_option maxRecDepth 65536 in
theorem w_c13 : (Jvm.Cond.code ({ cls := "com/example/attestor/attestor/interpolation/MessageTemplateEscapePinLaw", name := "put", desc := "([CIC)I" } : Jvm.MethodName) method_4_code (4 : Nat) (Option.some Jvm.ClassFile.FieldType.int)).before args0 about1 = true := code_word (m := ⟨1, 3⟩) (meth := k1m3) (c := k1c3) (by decide +kernel) rfl rfl rfl (by decide +kernel)
set_option maxRecDepth 65536 in
theorem w_c14 : (Jvm.Cond.code ({ cls := "com/example/attestor/attestor/interpolation/MessageTemplateEscapePinLaw", name := "special", desc := "(C)Z" } : Jvm.MethodName) method_3_code (1 : Nat) (Option.some Jvm.ClassFile.FieldType.boolean)).before args0 about1 = true := code_word (m := ⟨1, 2⟩) (meth := k1m2) (c := k1c2) (by decide +kernel) rfl rfl rfl (by decide +kernel)
set_option maxRecDepth 65536 in
theorem w_c15 : (Jvm.Cond.code ({ cls := "java/lang/String", name := "charAt", desc := "(I)C" } : Jvm.MethodName) jdk_42_method_56_code (2 : Nat) (Option.some Jvm.ClassFile.FieldType.char)).before args0 about1 = true := code_word (m := ⟨7, 4⟩) (meth := k7m4) (c := k7c4) (by decide +kernel) rfl rfl rfl (by decide +kernel)
set_option maxRecDepth 65536 in
theorem w_c16 : (Jvm.Cond.code ({ cls := "java/lang/String", name := "isLatin1", desc := "()Z" } : Jvm.MethodName) jdk_42_method_154_code (1 : Nat) (Option.some Jvm.ClassFile.FieldType.boolean)).before args0 about1 = true := code_word (m := ⟨7, 9⟩) (meth := k7m9) (c := k7c9) (by decide +kernel) rfl rfl rfl (by decide +kernel)
set_option maxRecDepth 65536 in
theorem w_c17 : (Jvm.Cond.code ({ cls := "java/lang/StringLatin1", name := "charAt", desc := "([BI)C" } : Jvm.MethodName) jdk_43_method_2_code (2 : Nat) (Option.some Jvm.ClassFile.FieldType.char)).before args0 about1 = true := code_word (m := ⟨10, 1⟩) (meth := k10m1) (c := k10c1) (by decide +kernel) rfl rfl rfl (by decide +kernel)
set_option maxRecDepth 65536 in
theorem w_c18 : (Jvm.Cond.code ({ cls := "java/lang/String", name := "checkIndex", desc := "(II)V" } : Jvm.MethodName) jdk_42_method_155_code (2 : Nat) (Option.none : Option Jvm.ClassFile.FieldType)).before args0 about1 = true := code_word (m := ⟨7, 10⟩) (meth := k7m10) (c := k7c10) (by decide +kernel) rfl rfl rfl (by decide +kernel)
set_option maxRecDepth 65536 in
theorem w_c19 : (Jvm.Cond.code ({ cls := "jdk/internal/util/Preconditions", name := "checkIndex", desc := "(IILjava/util/function/BiFunction;)I" } : Jvm.MethodName) jdk_41_method_11_code (3 : Nat) (Option.some Jvm.ClassFile.FieldType.int)).before args0 about1 = true := code_word (m := ⟨11, 1⟩) (meth := k11m1) (c := k11c1) (by decide +kernel) rfl rfl rfl (by decide +kernel)
set_option maxRecDepth 65536 in
theorem w_c20 : (Jvm.Cond.code ({ cls := "com/example/attestor/attestor/interpolation/MessageTemplate", name := "isEscapable", desc := "(C)Z" } : Jvm.MethodName) prog_7_method_9_code (1 : Nat) (Option.some Jvm.ClassFile.FieldType.boolean)).before args0 about1 = true := code_word (m := ⟨8, 2⟩) (meth := k8m2) (c := k8c2) (by decide +kernel) rfl rfl rfl (by decide +kernel)
set_option maxRecDepth 65536 in
theorem w_c21 : (Jvm.Cond.code ({ cls := "java/lang/StringBuilder", name := "<init>", desc := "(I)V" } : Jvm.MethodName) jdk_67_method_2_code (2 : Nat) (Option.none : Option Jvm.ClassFile.FieldType)).before args0 about1 = true := code_word (m := ⟨14, 1⟩) (meth := k14m1) (c := k14c1) (by decide +kernel) rfl rfl rfl (by decide +kernel)
set_option maxRecDepth 65536 in
theorem w_c22 : (Jvm.Cond.code ({ cls := "java/lang/AbstractStringBuilder", name := "<init>", desc := "(I)V" } : Jvm.MethodName) jdk_68_method_2_code (2 : Nat) (Option.none : Option Jvm.ClassFile.FieldType)).before args0 about1 = true := code_word (m := ⟨13, 1⟩) (meth := k13m1) (c := k13c1) (by decide +kernel) rfl rfl rfl (by decide +kernel)
set_option maxRecDepth 65536 in
theorem w_c23 : (Jvm.Cond.code ({ cls := "java/lang/StringBuilder", name := "append", desc := "(Ljava/lang/CharSequence;II)Ljava/lang/StringBuilder;" } : Jvm.MethodName) jdk_67_method_10_code (4 : Nat) (Option.some (Jvm.ClassFile.FieldType.object "java/lang/StringBuilder"))).before args0 about1 = true := code_word (m := ⟨14, 2⟩) (meth := k14m2) (c := k14c2) (by decide +kernel) rfl rfl rfl (by decide +kernel)
set_option maxRecDepth 65536 in
theorem w_c24 : (Jvm.Cond.code ({ cls := "java/lang/AbstractStringBuilder", name := "append", desc := "(Ljava/lang/CharSequence;II)Ljava/lang/AbstractStringBuilder;" } : Jvm.MethodName) jdk_68_method_27_code (5 : Nat) (Option.some (Jvm.ClassFile.FieldType.object "java/lang/AbstractStringBuilder"))).before args0 about1 = true := code_word (m := ⟨13, 5⟩) (meth := k13m5) (c := k13c5) (by decide +kernel) rfl rfl rfl (by decide +kernel)
set_option maxRecDepth 65536 in
theorem w_c25 : (Jvm.Cond.code ({ cls := "jdk/internal/util/Preconditions", name := "checkFromToIndex", desc := "(IIILjava/util/function/BiFunction;)I" } : Jvm.MethodName) jdk_41_method_12_code (4 : Nat) (Option.some Jvm.ClassFile.FieldType.int)).before args0 about1 = true := code_word (m := ⟨11, 2⟩) (meth := k11m2) (c := k11c2) (by decide +kernel) rfl rfl rfl (by decide +kernel)
set_option maxRecDepth 65536 in
theorem w_c26 : (Jvm.Cond.code ({ cls := "java/lang/AbstractStringBuilder", name := "ensureCapacityInternal", desc := "(I)V" } : Jvm.MethodName) jdk_68_method_9_code (3 : Nat) (Option.none : Option Jvm.ClassFile.FieldType)).before args0 about1 = true := code_word (m := ⟨13, 3⟩) (meth := k13m3) (c := k13c3) (by decide +kernel) rfl rfl rfl (by decide +kernel)
set_option maxRecDepth 65536 in
theorem w_c27 : (Jvm.Cond.code ({ cls := "java/lang/AbstractStringBuilder", name := "appendChars", desc := "(Ljava/lang/String;II)V" } : Jvm.MethodName) jdk_68_method_75_code (8 : Nat) (Option.none : Option Jvm.ClassFile.FieldType)).before args0 about1 = true := code_word (m := ⟨13, 9⟩) (meth := k13m9) (c := k13c9) (by decide +kernel) rfl rfl rfl (by decide +kernel)
set_option maxRecDepth 65536 in
theorem w_c28 : (Jvm.Cond.code ({ cls := "java/lang/AbstractStringBuilder", name := "isLatin1", desc := "()Z" } : Jvm.MethodName) jdk_68_method_68_code (1 : Nat) (Option.some Jvm.ClassFile.FieldType.boolean)).before args0 about1 = true := code_word (m := ⟨13, 8⟩) (meth := k13m8) (c := k13c8) (by decide +kernel) rfl rfl rfl (by decide +kernel)
set_option maxRecDepth 65536 in
theorem w_c29 : (Jvm.Cond.code ({ cls := "java/lang/String", name := "value", desc := "()[B" } : Jvm.MethodName) jdk_42_method_153_code (1 : Nat) (Option.some (Jvm.ClassFile.FieldType.array Jvm.ClassFile.FieldType.byte))).before args0 about1 = true := code_word (m := ⟨7, 8⟩) (meth := k7m8) (c := k7c8) (by decide +kernel) rfl rfl rfl (by decide +kernel)
set_option maxRecDepth 65536 in
theorem w_c30 : (Jvm.Cond.code ({ cls := "java/lang/StringBuilder", name := "append", desc := "(C)Ljava/lang/StringBuilder;" } : Jvm.MethodName) jdk_67_method_14_code (2 : Nat) (Option.some (Jvm.ClassFile.FieldType.object "java/lang/StringBuilder"))).before args0 about1 = true := code_word (m := ⟨14, 3⟩) (meth := k14m3) (c := k14c3) (by decide +kernel) rfl rfl rfl (by decide +kernel)
set_option maxRecDepth 65536 in
theorem w_c31 : (Jvm.Cond.code ({ cls := "java/lang/AbstractStringBuilder", name := "append", desc := "(C)Ljava/lang/AbstractStringBuilder;" } : Jvm.MethodName) jdk_68_method_31_code (2 : Nat) (Option.some (Jvm.ClassFile.FieldType.object "java/lang/AbstractStringBuilder"))).before args0 about1 = true := code_word (m := ⟨13, 6⟩) (meth := k13m6) (c := k13c6) (by decide +kernel) rfl rfl rfl (by decide +kernel)
set_option maxRecDepth 65536 in
theorem w_c32 : (Jvm.Cond.code ({ cls := "java/lang/StringLatin1", name := "canEncode", desc := "(C)Z" } : Jvm.MethodName) jdk_43_method_3_code (1 : Nat) (Option.some Jvm.ClassFile.FieldType.boolean)).before args0 about1 = true := code_word (m := ⟨10, 2⟩) (meth := k10m2) (c := k10c2) (by decide +kernel) rfl rfl rfl (by decide +kernel)
set_option maxRecDepth 65536 in
theorem w_c33 : (Jvm.Cond.code ({ cls := "java/lang/StringBuilder", name := "toString", desc := "()Ljava/lang/String;" } : Jvm.MethodName) jdk_67_method_42_code (1 : Nat) (Option.some (Jvm.ClassFile.FieldType.object "java/lang/String"))).before args0 about1 = true := code_word (m := ⟨14, 4⟩) (meth := k14m4) (c := k14c4) (by decide +kernel) rfl rfl rfl (by decide +kernel)
set_option maxRecDepth 65536 in
theorem w_c34 : (Jvm.Cond.code ({ cls := "java/lang/String", name := "<init>", desc := "(Ljava/lang/StringBuilder;)V" } : Jvm.MethodName) jdk_42_method_53_code (2 : Nat) (Option.none : Option Jvm.ClassFile.FieldType)).before args0 about1 = true := code_word (m := ⟨7, 2⟩) (meth := k7m2) (c := k7c2) (by decide +kernel) rfl rfl rfl (by decide +kernel)
set_option maxRecDepth 65536 in
theorem w_c35 : (Jvm.Cond.code ({ cls := "java/lang/String", name := "<init>", desc := "(Ljava/lang/AbstractStringBuilder;Ljava/lang/Void;)V" } : Jvm.MethodName) jdk_42_method_150_code (5 : Nat) (Option.none : Option Jvm.ClassFile.FieldType)).before args0 about1 = true := code_word (m := ⟨7, 6⟩) (meth := k7m6) (c := k7c6) (by decide +kernel) rfl rfl rfl (by decide +kernel)
set_option maxRecDepth 65536 in
theorem w_c36 : (Jvm.Cond.code ({ cls := "java/lang/AbstractStringBuilder", name := "getValue", desc := "()[B" } : Jvm.MethodName) jdk_68_method_64_code (1 : Nat) (Option.some (Jvm.ClassFile.FieldType.array Jvm.ClassFile.FieldType.byte))).before args0 about1 = true := code_word (m := ⟨13, 7⟩) (meth := k13m7) (c := k13c7) (by decide +kernel) rfl rfl rfl (by decide +kernel)
set_option maxRecDepth 65536 in
theorem w_c37 : (Jvm.Cond.code ({ cls := "java/lang/StringBuilder", name := "length", desc := "()I" } : Jvm.MethodName) jdk_67_method_93_code (1 : Nat) (Option.some Jvm.ClassFile.FieldType.int)).before args0 about1 = true := code_word (m := ⟨14, 5⟩) (meth := k14m5) (c := k14c5) (by decide +kernel) rfl rfl rfl (by decide +kernel)
set_option maxRecDepth 65536 in
theorem w_c38 : (Jvm.Cond.code ({ cls := "java/lang/AbstractStringBuilder", name := "length", desc := "()I" } : Jvm.MethodName) jdk_68_method_6_code (1 : Nat) (Option.some Jvm.ClassFile.FieldType.int)).before args0 about1 = true := code_word (m := ⟨13, 2⟩) (meth := k13m2) (c := k13c2) (by decide +kernel) rfl rfl rfl (by decide +kernel)
set_option maxRecDepth 65536 in
theorem w_c39 : (Jvm.Cond.code ({ cls := "java/util/Arrays", name := "copyOfRange", desc := "([BII)[B" } : Jvm.MethodName) jdk_65_method_132_code (3 : Nat) (Option.some (Jvm.ClassFile.FieldType.array Jvm.ClassFile.FieldType.byte))).before args0 about1 = true := code_word (m := ⟨16, 3⟩) (meth := k16m3) (c := k16c3) (by decide +kernel) rfl rfl rfl (by decide +kernel)
set_option maxRecDepth 65536 in
theorem w_c40 : (Jvm.Cond.code ({ cls := "java/lang/AbstractStringBuilder", name := "newCapacity", desc := "(I)I" } : Jvm.MethodName) jdk_68_method_10_code (6 : Nat) (Option.some Jvm.ClassFile.FieldType.int)).before args0 about1 = true := code_word (m := ⟨13, 4⟩) (meth := k13m4) (c := k13c4) (by decide +kernel) rfl rfl rfl (by decide +kernel)
set_option maxRecDepth 65536 in
theorem w_c41 : (Jvm.Cond.code ({ cls := "jdk/internal/util/ArraysSupport", name := "newLength", desc := "(III)I" } : Jvm.MethodName) jdk_48_method_27_code (4 : Nat) (Option.some Jvm.ClassFile.FieldType.int)).before args0 about1 = true := code_word (m := ⟨18, 1⟩) (meth := k18m1) (c := k18c1) (by decide +kernel) rfl rfl rfl (by decide +kernel)
set_option maxRecDepth 65536 in
theorem w_c42 : (Jvm.Cond.code ({ cls := "java/lang/Math", name := "max", desc := "(II)I" } : Jvm.MethodName) jdk_29_method_65_code (2 : Nat) (Option.some Jvm.ClassFile.FieldType.int)).before args0 about1 = true := code_word (m := ⟨19, 1⟩) (meth := k19m1) (c := k19c1) (by decide +kernel) rfl rfl rfl (by decide +kernel)
set_option maxRecDepth 65536 in
theorem w_c43 : (Jvm.Cond.code ({ cls := "java/util/Arrays", name := "copyOf", desc := "([BI)[B" } : Jvm.MethodName) jdk_65_method_121_code (3 : Nat) (Option.some (Jvm.ClassFile.FieldType.array Jvm.ClassFile.FieldType.byte))).before args0 about1 = true := code_word (m := ⟨16, 1⟩) (meth := k16m1) (c := k16c1) (by decide +kernel) rfl rfl rfl (by decide +kernel)
set_option maxRecDepth 65536 in
theorem w_c44 : (Jvm.Cond.code ({ cls := "java/lang/Math", name := "min", desc := "(II)I" } : Jvm.MethodName) jdk_29_method_69_code (2 : Nat) (Option.some Jvm.ClassFile.FieldType.int)).before args0 about1 = true := code_word (m := ⟨19, 2⟩) (meth := k19m2) (c := k19c2) (by decide +kernel) rfl rfl rfl (by decide +kernel)
set_option maxRecDepth 65536 in
theorem w_c45 : (Jvm.Cond.code ({ cls := "java/util/Arrays", name := "copyOfRangeByte", desc := "([BII)[B" } : Jvm.MethodName) jdk_65_method_133_code (5 : Nat) (Option.some (Jvm.ClassFile.FieldType.array Jvm.ClassFile.FieldType.byte))).before args0 about1 = true := code_word (m := ⟨16, 4⟩) (meth := k16m4) (c := k16c4) (by decide +kernel) rfl rfl rfl (by decide +kernel)
set_option maxRecDepth 65536 in
theorem w_c46 : (Jvm.Cond.code ({ cls := "java/util/Arrays", name := "checkLength", desc := "(II)V" } : Jvm.MethodName) jdk_65_method_131_code (2 : Nat) (Option.none : Option Jvm.ClassFile.FieldType)).before args0 about1 = true := code_word (m := ⟨16, 2⟩) (meth := k16m2) (c := k16c2) (by decide +kernel) rfl rfl rfl (by decide +kernel)
def codes1 : List Jvm.Cond := [Jvm.Cond.code x code maxLocals ret, Jvm.Cond.code ({ cls := "com/example/attestor/attestor/interpolation/MessageTemplateEscapePinLaw", name := "draw", desc := "(I)C" } : Jvm.MethodName) method_2_code (2 : Nat) (Option.some Jvm.ClassFile.FieldType.char), Jvm.Cond.code ({ cls := "com/example/attestor/attestor/interpolation/MessageTemplateEscapePinLaw", name := "make", desc := "(ICCCC)Ljava/lang/String;" } : Jvm.MethodName) method_5_code (5 : Nat) (Option.some (Jvm.ClassFile.FieldType.object "java/lang/String")), Jvm.Cond.code ({ cls := "java/lang/String", name := "<init>", desc := "([C)V" } : Jvm.MethodName) jdk_42_method_3_code (2 : Nat) (Option.none : Option Jvm.ClassFile.FieldType), Jvm.Cond.code ({ cls := "java/lang/String", name := "<init>", desc := "([CIILjava/lang/Void;)V" } : Jvm.MethodName) jdk_42_method_149_code (6 : Nat) (Option.none : Option Jvm.ClassFile.FieldType), Jvm.Cond.code ({ cls := "java/lang/Object", name := "<init>", desc := "()V" } : Jvm.MethodName) object_method_1_code (1 : Nat) (Option.none : Option Jvm.ClassFile.FieldType), Jvm.Cond.code ({ cls := "com/example/attestor/attestor/interpolation/MessageTemplate", name := "escape", desc := "(Ljava/lang/String;)Ljava/lang/String;" } : Jvm.MethodName) prog_7_method_5_code (4 : Nat) (Option.some (Jvm.ClassFile.FieldType.object "java/lang/String")), Jvm.Cond.code ({ cls := "java/lang/String", name := "length", desc := "()I" } : Jvm.MethodName) jdk_42_method_54_code (1 : Nat) (Option.some Jvm.ClassFile.FieldType.int), Jvm.Cond.code ({ cls := "java/lang/String", name := "coder", desc := "()B" } : Jvm.MethodName) jdk_42_method_152_code (1 : Nat) (Option.some Jvm.ClassFile.FieldType.byte), Jvm.Cond.code ({ cls := "com/example/attestor/attestor/interpolation/MessageTemplateEscapePinLaw", name := "at", desc := "(Ljava/lang/String;[CII)Z" } : Jvm.MethodName) method_6_code (4 : Nat) (Option.some Jvm.ClassFile.FieldType.boolean), Jvm.Cond.code ({ cls := "java/lang/StringUTF16", name := "compress", desc := "([CII)[B" } : Jvm.MethodName) jdk_52_method_16_code (6 : Nat) (Option.some (Jvm.ClassFile.FieldType.array Jvm.ClassFile.FieldType.byte)), Jvm.Cond.code ({ cls := "java/lang/StringUTF16", name := "compress", desc := "([CI[BII)I" } : Jvm.MethodName) jdk_52_method_21_code (7 : Nat) (Option.some Jvm.ClassFile.FieldType.int), Jvm.Cond.code ({ cls := "java/lang/StringUTF16", name := "coderFromArrayLen", desc := "([BI)B" } : Jvm.MethodName) jdk_52_method_15_code (2 : Nat) (Option.some Jvm.ClassFile.FieldType.byte), Jvm.Cond.code ({ cls := "com/example/attestor/attestor/interpolation/MessageTemplateEscapePinLaw", name := "put", desc := "([CIC)I" } : Jvm.MethodName) method_4_code (4 : Nat) (Option.some Jvm.ClassFile.FieldType.int), Jvm.Cond.code ({ cls := "com/example/attestor/attestor/interpolation/MessageTemplateEscapePinLaw", name := "special", desc := "(C)Z" } : Jvm.MethodName) method_3_code (1 : Nat) (Option.some Jvm.ClassFile.FieldType.boolean), Jvm.Cond.code ({ cls := "java/lang/String", name := "charAt", desc := "(I)C" } : Jvm.MethodName) jdk_42_method_56_code (2 : Nat) (Option.some Jvm.ClassFile.FieldType.char), Jvm.Cond.code ({ cls := "java/lang/String", name := "isLatin1", desc := "()Z" } : Jvm.MethodName) jdk_42_method_154_code (1 : Nat) (Option.some Jvm.ClassFile.FieldType.boolean), Jvm.Cond.code ({ cls := "java/lang/StringLatin1", name := "charAt", desc := "([BI)C" } : Jvm.MethodName) jdk_43_method_2_code (2 : Nat) (Option.some Jvm.ClassFile.FieldType.char), Jvm.Cond.code ({ cls := "java/lang/String", name := "checkIndex", desc := "(II)V" } : Jvm.MethodName) jdk_42_method_155_code (2 : Nat) (Option.none : Option Jvm.ClassFile.FieldType), Jvm.Cond.code ({ cls := "jdk/internal/util/Preconditions", name := "checkIndex", desc := "(IILjava/util/function/BiFunction;)I" } : Jvm.MethodName) jdk_41_method_11_code (3 : Nat) (Option.some Jvm.ClassFile.FieldType.int), Jvm.Cond.code ({ cls := "com/example/attestor/attestor/interpolation/MessageTemplate", name := "isEscapable", desc := "(C)Z" } : Jvm.MethodName) prog_7_method_9_code (1 : Nat) (Option.some Jvm.ClassFile.FieldType.boolean), Jvm.Cond.code ({ cls := "java/lang/StringBuilder", name := "<init>", desc := "(I)V" } : Jvm.MethodName) jdk_67_method_2_code (2 : Nat) (Option.none : Option Jvm.ClassFile.FieldType), Jvm.Cond.code ({ cls := "java/lang/AbstractStringBuilder", name := "<init>", desc := "(I)V" } : Jvm.MethodName) jdk_68_method_2_code (2 : Nat) (Option.none : Option Jvm.ClassFile.FieldType), Jvm.Cond.code ({ cls := "java/lang/StringBuilder", name := "append", desc := "(Ljava/lang/CharSequence;II)Ljava/lang/StringBuilder;" } : Jvm.MethodName) jdk_67_method_10_code (4 : Nat) (Option.some (Jvm.ClassFile.FieldType.object "java/lang/StringBuilder")), Jvm.Cond.code ({ cls := "java/lang/AbstractStringBuilder", name := "append", desc := "(Ljava/lang/CharSequence;II)Ljava/lang/AbstractStringBuilder;" } : Jvm.MethodName) jdk_68_method_27_code (5 : Nat) (Option.some (Jvm.ClassFile.FieldType.object "java/lang/AbstractStringBuilder")), Jvm.Cond.code ({ cls := "jdk/internal/util/Preconditions", name := "checkFromToIndex", desc := "(IIILjava/util/function/BiFunction;)I" } : Jvm.MethodName) jdk_41_method_12_code (4 : Nat) (Option.some Jvm.ClassFile.FieldType.int), Jvm.Cond.code ({ cls := "java/lang/AbstractStringBuilder", name := "ensureCapacityInternal", desc := "(I)V" } : Jvm.MethodName) jdk_68_method_9_code (3 : Nat) (Option.none : Option Jvm.ClassFile.FieldType), Jvm.Cond.code ({ cls := "java/lang/AbstractStringBuilder", name := "appendChars", desc := "(Ljava/lang/String;II)V" } : Jvm.MethodName) jdk_68_method_75_code (8 : Nat) (Option.none : Option Jvm.ClassFile.FieldType), Jvm.Cond.code ({ cls := "java/lang/AbstractStringBuilder", name := "isLatin1", desc := "()Z" } : Jvm.MethodName) jdk_68_method_68_code (1 : Nat) (Option.some Jvm.ClassFile.FieldType.boolean), Jvm.Cond.code ({ cls := "java/lang/String", name := "value", desc := "()[B" } : Jvm.MethodName) jdk_42_method_153_code (1 : Nat) (Option.some (Jvm.ClassFile.FieldType.array Jvm.ClassFile.FieldType.byte)), Jvm.Cond.code ({ cls := "java/lang/StringBuilder", name := "append", desc := "(C)Ljava/lang/StringBuilder;" } : Jvm.MethodName) jdk_67_method_14_code (2 : Nat) (Option.some (Jvm.ClassFile.FieldType.object "java/lang/StringBuilder")), Jvm.Cond.code ({ cls := "java/lang/AbstractStringBuilder", name := "append", desc := "(C)Ljava/lang/AbstractStringBuilder;" } : Jvm.MethodName) jdk_68_method_31_code (2 : Nat) (Option.some (Jvm.ClassFile.FieldType.object "java/lang/AbstractStringBuilder")), Jvm.Cond.code ({ cls := "java/lang/StringLatin1", name := "canEncode", desc := "(C)Z" } : Jvm.MethodName) jdk_43_method_3_code (1 : Nat) (Option.some Jvm.ClassFile.FieldType.boolean), Jvm.Cond.code ({ cls := "java/lang/StringBuilder", name := "toString", desc := "()Ljava/lang/String;" } : Jvm.MethodName) jdk_67_method_42_code (1 : Nat) (Option.some (Jvm.ClassFile.FieldType.object "java/lang/String")), Jvm.Cond.code ({ cls := "java/lang/String", name := "<init>", desc := "(Ljava/lang/StringBuilder;)V" } : Jvm.MethodName) jdk_42_method_53_code (2 : Nat) (Option.none : Option Jvm.ClassFile.FieldType), Jvm.Cond.code ({ cls := "java/lang/String", name := "<init>", desc := "(Ljava/lang/AbstractStringBuilder;Ljava/lang/Void;)V" } : Jvm.MethodName) jdk_42_method_150_code (5 : Nat) (Option.none : Option Jvm.ClassFile.FieldType), Jvm.Cond.code ({ cls := "java/lang/AbstractStringBuilder", name := "getValue", desc := "()[B" } : Jvm.MethodName) jdk_68_method_64_code (1 : Nat) (Option.some (Jvm.ClassFile.FieldType.array Jvm.ClassFile.FieldType.byte)), Jvm.Cond.code ({ cls := "java/lang/StringBuilder", name := "length", desc := "()I" } : Jvm.MethodName) jdk_67_method_93_code (1 : Nat) (Option.some Jvm.ClassFile.FieldType.int), Jvm.Cond.code ({ cls := "java/lang/AbstractStringBuilder", name := "length", desc := "()I" } : Jvm.MethodName) jdk_68_method_6_code (1 : Nat) (Option.some Jvm.ClassFile.FieldType.int), Jvm.Cond.code ({ cls := "java/util/Arrays", name := "copyOfRange", desc := "([BII)[B" } : Jvm.MethodName) jdk_65_method_132_code (3 : Nat) (Option.some (Jvm.ClassFile.FieldType.array Jvm.ClassFile.FieldType.byte)), Jvm.Cond.code ({ cls := "java/lang/AbstractStringBuilder", name := "newCapacity", desc := "(I)I" } : Jvm.MethodName) jdk_68_method_10_code (6 : Nat) (Option.some Jvm.ClassFile.FieldType.int), Jvm.Cond.code ({ cls := "jdk/internal/util/ArraysSupport", name := "newLength", desc := "(III)I" } : Jvm.MethodName) jdk_48_method_27_code (4 : Nat) (Option.some Jvm.ClassFile.FieldType.int), Jvm.Cond.code ({ cls := "java/lang/Math", name := "max", desc := "(II)I" } : Jvm.MethodName) jdk_29_method_65_code (2 : Nat) (Option.some Jvm.ClassFile.FieldType.int), Jvm.Cond.code ({ cls := "java/util/Arrays", name := "copyOf", desc := "([BI)[B" } : Jvm.MethodName) jdk_65_method_121_code (3 : Nat) (Option.some (Jvm.ClassFile.FieldType.array Jvm.ClassFile.FieldType.byte)), Jvm.Cond.code ({ cls := "java/lang/Math", name := "min", desc := "(II)I" } : Jvm.MethodName) jdk_29_method_69_code (2 : Nat) (Option.some Jvm.ClassFile.FieldType.int), Jvm.Cond.code ({ cls := "java/util/Arrays", name := "copyOfRangeByte", desc := "([BII)[B" } : Jvm.MethodName) jdk_65_method_133_code (5 : Nat) (Option.some (Jvm.ClassFile.FieldType.array Jvm.ClassFile.FieldType.byte)), Jvm.Cond.code ({ cls := "java/util/Arrays", name := "checkLength", desc := "(II)V" } : Jvm.MethodName) jdk_65_method_131_code (2 : Nat) (Option.none : Option Jvm.ClassFile.FieldType)]
set_option maxRecDepth 65536 in
theorem codes_eq : words1.filter isCode = codes1 := rfl
theorem w_codes : ∀ c ∈ words1.filter isCode, c.before args0 about1 = true := by
  rw [codes_eq]
  intro c hc
  simp only [codes1, List.mem_cons, List.not_mem_nil, or_false] at hc
  rcases hc with rfl | rfl | rfl | rfl | rfl | rfl | rfl | rfl | rfl | rfl | rfl | rfl | rfl | rfl | rfl | rfl | rfl | rfl | rfl | rfl | rfl | rfl | rfl | rfl | rfl | rfl | rfl | rfl | rfl | rfl | rfl | rfl | rfl | rfl | rfl | rfl | rfl | rfl | rfl | rfl | rfl | rfl | rfl | rfl | rfl | rfl | rfl
  · exact w_c0
  · exact w_c1
  · exact w_c2
  · exact w_c3
  · exact w_c4
  · exact w_c5
  · exact w_c6
  · exact w_c7
  · exact w_c8
  · exact w_c9
  · exact w_c10
  · exact w_c11
  · exact w_c12
  · exact w_c13
  · exact w_c14
  · exact w_c15
  · exact w_c16
  · exact w_c17
  · exact w_c18
  · exact w_c19
  · exact w_c20
  · exact w_c21
  · exact w_c22
  · exact w_c23
  · exact w_c24
  · exact w_c25
  · exact w_c26
  · exact w_c27
  · exact w_c28
  · exact w_c29
  · exact w_c30
  · exact w_c31
  · exact w_c32
  · exact w_c33
  · exact w_c34
  · exact w_c35
  · exact w_c36
  · exact w_c37
  · exact w_c38
  · exact w_c39
  · exact w_c40
  · exact w_c41
  · exact w_c42
  · exact w_c43
  · exact w_c44
  · exact w_c45
  · exact w_c46
set_option maxRecDepth 65536 in
theorem w_t1 : (words1.take 24).all (fun c => isCode c || c.before args0 about1) = true := by decide +kernel
set_option maxRecDepth 65536 in
theorem w_t2 : ((words1.drop 24).take 24).all (fun c => isCode c || c.before args0 about1) = true := by decide +kernel
set_option maxRecDepth 65536 in
theorem w_t3 : (((words1.drop 24).drop 24).take 24).all (fun c => isCode c || c.before args0 about1) = true := by decide +kernel
set_option maxRecDepth 65536 in
theorem w_t4 : ((((words1.drop 24).drop 24).drop 24).take 24).all (fun c => isCode c || c.before args0 about1) = true := by decide +kernel
set_option maxRecDepth 65536 in
theorem w_t5 : (((((words1.drop 24).drop 24).drop 24).drop 24).take 24).all (fun c => isCode c || c.before args0 about1) = true := by decide +kernel
set_option maxRecDepth 65536 in
theorem w_t6 : ((((((words1.drop 24).drop 24).drop 24).drop 24).drop 24).take 24).all (fun c => isCode c || c.before args0 about1) = true := by decide +kernel
set_option maxRecDepth 65536 in
theorem w_t7 : (((((((words1.drop 24).drop 24).drop 24).drop 24).drop 24).drop 24).take 24).all (fun c => isCode c || c.before args0 about1) = true := by decide +kernel
set_option maxRecDepth 65536 in
theorem w_t8 : ((((((((words1.drop 24).drop 24).drop 24).drop 24).drop 24).drop 24).drop 24).take 24).all (fun c => isCode c || c.before args0 about1) = true := by decide +kernel
set_option maxRecDepth 65536 in
theorem w_t9 : (((((((((words1.drop 24).drop 24).drop 24).drop 24).drop 24).drop 24).drop 24).drop 24).take 24).all (fun c => isCode c || c.before args0 about1) = true := by decide +kernel
set_option maxRecDepth 65536 in
theorem w_t10 : (((((((((words1.drop 24).drop 24).drop 24).drop 24).drop 24).drop 24).drop 24).drop 24).drop 24).all (fun c => isCode c || c.before args0 about1) = true := by decide +kernel
theorem w_tables : (allAtoms (Jvm.Cond.code x code maxLocals ret :: tables_1)).before args0 about1 = true := by
  rw [allAtoms_all]
  show words1.all (fun c => c.before args0 about1) = true
  refine all_split ?_ w_codes
  rw [← List.take_append_drop 24 words1, List.all_append, w_t1, ← List.take_append_drop 24 (words1.drop 24), List.all_append, w_t2, ← List.take_append_drop 24 ((words1.drop 24).drop 24), List.all_append, w_t3, ← List.take_append_drop 24 (((words1.drop 24).drop 24).drop 24), List.all_append, w_t4, ← List.take_append_drop 24 ((((words1.drop 24).drop 24).drop 24).drop 24), List.all_append, w_t5, ← List.take_append_drop 24 (((((words1.drop 24).drop 24).drop 24).drop 24).drop 24), List.all_append, w_t6, ← List.take_append_drop 24 ((((((words1.drop 24).drop 24).drop 24).drop 24).drop 24).drop 24), List.all_append, w_t7, ← List.take_append_drop 24 (((((((words1.drop 24).drop 24).drop 24).drop 24).drop 24).drop 24).drop 24), List.all_append, w_t8, ← List.take_append_drop 24 ((((((((words1.drop 24).drop 24).drop 24).drop 24).drop 24).drop 24).drop 24).drop 24), List.all_append, w_t9, w_t10]
  rfl
set_option maxRecDepth 65536 in
theorem w_rest : rest_1_c.before args0 about1 = true := by decide +kernel
set_option maxRecDepth 65536 in
theorem w_case : (Jvm.Cond.and given_1 narrow_1).before args0 about1 = true := by decide +kernel
set_option maxRecDepth 65536 in
theorem w_consts : constsHeld consts_1 about1 := Jvm.Lit.constsHeldB_iff.mp (by decide +kernel)
theorem w_applies : (headSpec (Jvm.Cond.code x code maxLocals ret :: tables_1) room_1).applies x e0.platform about1 = true :=
  (Spec.applies_iff w_frames).mpr ⟨w_running, w_runnable, w_alone, w_named, w_hears, w_ripe, w_room, w_tables⟩
theorem atStart : AtStart classFile x code maxLocals ret World_1 tables_1 room_1 Calls_1 rest_1 Pre_1 launch0 p0 e0 about1 theMethod args0 below0 :=
  ⟨lists_1, trivial, launch0.admits_env _ _ _, launch0.least_env, fairChoices_fair.cas, fairChoices_fair.clock, w_frames, w_args, w_heap, w_applies, ⟨w_consts, trivial⟩, w_rest, w_case⟩
end start1
theorem witness_1 : WitnessClaimed_1 := ⟨start1.p0, start1.e0, start1.about1, start1.theMethod, start1.args0, start1.below0, start1.atStart⟩
end Jvm.Pilot.@@N@@
