import JvmDerived
import JvmDerived.Pilot.@@N@@Statement
import JvmDerived.Pilot.@@N@@Code
set_option linter.unusedVariables false
set_option linter.unusedSimpArgs false
namespace Jvm.RoadKit
open Sem ClassFile Op Lib Jvm.Stand Jvm.Free Jvm.LawKit
section New
variable {p : Program} {l : Launch} {e : Env} {R : Room} {s : State} {m : MethodId} {args : Array Value} {below : List Frame} {meth : Method} {c : Code} {T : State} {locs : List Loc} {cells slots : Nat}
theorem retI (X : Stand p l e R s m args below meth c T locs cells slots) (hx : p.tables.exec = Jvm.exec) {pc : Nat} {Ls : Array Slot} {z : Int32} {rest : List Value} (hret : meth.sig.returnType = some .int) (hd : decode c.code pc = .ok (.ireturn, 1)) {fs : List Frame}
    (hl : ∀ (f : JFrame) (acts : List Action), f.method = m → f.locked = none → f.entered = [] → (doReturn e (T.setTop f) acts (some (.int z))).1 = T.setFrames fs) : Steps p.tables e below (T.setTop (mkF m pc Ls (.int z :: rest))) (T.setFrames fs) := by
  have hm' : T.vm.method? m = some meth := X.method'
  have hn : narrow .int (.int z) = .int z := rfl
  show Steps p.tables e below (T.setTop { method := m, pc := pc, locals := Ls, stack := _ :: rest, locked := none }) _
  jvm_step X.here [X.here.top, hx, hd, hm', hret, hn]
  first | (intro acts; rw [hl _ acts rfl rfl rfl]) | rw [hl _ _ rfl rfl rfl]
  exact Steps.refl _
end New
end Jvm.RoadKit
namespace Jvm.Pilot.@@N@@
open Jvm Jvm.ClassFile Sem Op Lib Jvm.Free Jvm.Stand Jvm.LawKit Jvm.RoadKit Bundle Jvm.Pilot.@@N@@.Jvm.D
section OwnKit
variable {p : Program} {l : Launch} {e : Env} {R : Room} {s : State} {m : MethodId} {args : Array Value} {below : List Frame} {meth : Method} {c : Code} {T S0 Z : State} {locs : List Loc} {cells slots : Nat} {a0 : Array Value} {h h0 : Heap} {own C : String} {index count : Nat} {y z : MethodName} {bytes : ByteArray} {mx : Nat} {rt : Option FieldType} {rm : Room} {as : Array Value} {Φ : Option Value → Heap → Prop}
/-- what a body leaves: it wrote in new cells alone; Φ of what it returns and of the heap -/
def own_Q (Z : State) (Φ : Option Value → Heap → Prop) (v : Option Value) (h : Heap) (L : List Loc) : Prop := Fr Z.heap.size L ∧ Φ v h
/-- the narrow contract (nothing is interned) -/
def own_NC (l : Launch) (Z : State) (y : MethodName) (bytes : ByteArray) (mx : Nat) (rt : Option FieldType) (rm : Room) (as : Array Value) (h0 : Heap) (Φ : Option Value → Heap → Prop) : Prop :=
  MetFree l y (head1 [Jvm.Cond.code y bytes mx rt] rm) (fun a U => a = as ∧ Z.Warmed39 U.vm ∧ U.heap = h0) (fun _ _ _ _ _ => True) (fun _ U o U' => ∃ v L, o = .returned v ∧ own_Q Z Φ v U'.heap L ∧ FrameEnd U o U' L rm.cells rm.slots)
/-- what a walk of the body has to show -/
def own_NW (l : Launch) (Z : State) (y : MethodName) (bytes : ByteArray) (mx : Nat) (rt : Option FieldType) (rm : Room) (as : Array Value) (h0 : Heap) (Φ : Option Value → Heap → Prop) : Prop :=
  ∀ (p : Program) (e : Env) (s : State) (m : MethodId) (below : List Frame) (meth : Method) (c : Code) (s₁ S0 : State), Stand p l e rm s m as below meth c s₁ [] 0 0 → p.tables.exec = Jvm.exec → c.code = bytes → c.maxLocals = mx → meth.sig.returnType = rt → meth.name = y.name → s.vm.findClass y.cls = some m.cls → Z.Warmed39 s.vm → s₁.heap = h0 →
    Steps p.tables e below S0 (s₁.setTop (entryFrame m as mx)) →
    ∃ (T : State) (v : Option Value) (locs : List Loc) (cells slots : Nat), Stand p l e rm s m as below meth c T locs cells slots ∧ cells ≤ rm.cells ∧ slots ≤ rm.slots ∧ (rt = none → v = none) ∧ Fr Z.heap.size locs ∧ Φ v T.heap ∧
      ∀ fs, (∀ (f : JFrame) (acts : List Action), f.method = m → f.locked = none → f.entered = [] → (doReturn e (T.setTop f) acts v).1 = T.setFrames fs) → Steps p.tables e below S0 (T.setFrames fs)
theorem own_met {ws : List Jvm.Cond} (hx : plainFor y = true) (walk : own_NW l Z y bytes mx rt rm as h0 Φ) :
    MetFree l y (head1 (Jvm.Cond.code y bytes mx rt :: ws) rm) (fun a U => a = as ∧ Z.Warmed39 U.vm ∧ U.heap = h0) (fun _ _ _ _ _ => True) (fun _ U o U' => ∃ v L, o = .returned v ∧ own_Q Z Φ v U'.heap L ∧ FrameEnd U o U' L rm.cells rm.slots) := by
  refine MetFree.of_bodySF hx hisR ?_
  intro p e s m args below meth c s₁ Bd hml0 hP hK
  obtain ⟨rfl, hZ, hh⟩ := hP
  obtain ⟨T, v, locs, cells, slots, X, hc, hs, hv, hN, hΦ, st⟩ := walk p e s m below meth c s₁ _ (Stand.of_body Bd) Bd.exec Bd.bytes hml0 Bd.returns (name_of_methodNamed Bd.named Bd.method).1 (findClass_of_methodNamed Bd.named) hZ (by rw [← hh, Bd.state]; rfl) (Steps.refl _)
  obtain ⟨fs, hr, hrun, hended, hW, hsame⟩ := X.leave (v := v) (fun q => hv (by rw [← Bd.returns]; exact q))
  exact ⟨_, _, st fs hr, hrun, hended, _, _, rfl, ⟨hN, hΦ⟩, ⟨_, rfl⟩, hW, hsame.mono hc hs⟩
theorem own_nc (hx : plainFor y = true) (walk : own_NW l Z y bytes mx rt rm as h0 Φ) : own_NC l Z y bytes mx rt rm as h0 Φ := own_met hx walk
theorem own_NC.imp {Ψ : Option Value → Heap → Prop} (H : own_NC l Z y bytes mx rt rm as h0 Φ) (q : ∀ v h, Φ v h → Ψ v h) : own_NC l Z y bytes mx rt rm as h0 Ψ := by
  intro p e ha hc hk s m args below hf happ hP hK
  obtain ⟨n, o, h1, h2, h3, v, L, rfl, ⟨hN, hΦ⟩, hq⟩ := H p e ha hc hk s m args below hf happ hP hK
  exact ⟨n, _, h1, h2, h3, v, L, rfl, ⟨hN, q _ _ hΦ⟩, hq⟩
/-- a payer of the standing shape -/
abbrev own_Pay (l : Launch) (R : Room) (p : Program) (e : Env) (below : List Frame) (s : State) (args : Array Value) (y : MethodName) (len W : Nat) (as : Array Value) (h : Heap) (kc ks : Nat) (Q : Option Value → Heap → List Loc → Prop) : Prop :=
  Back l R p e below s args y len W (fun P a => a = as ∧ P.U.heap = h ∧ P.cells + kc ≤ R.cells ∧ P.slots + ks ≤ R.slots) (fun P _ v B => ∃ L, Q v B.U.heap L ∧ B.locs = P.locs ++ L ∧ B.cells = P.cells + kc ∧ B.slots = P.slots + ks)
theorem own_pay {len W : Nat} (H : own_NC l Z y bytes mx rt rm as h Φ) (hZ : Z.Warmed39 s.vm) (wc : (Cond.code y bytes mx rt).before a0 Z = true) (wz : (Cond.initialized y.cls).before a0 Z = true) (hf : rm.frames + 1 ≤ R.frames) (hl : W + (mx + 11) + rm.locals ≤ R.locals) :
    own_Pay l R p e below s args y len W as h rm.cells rm.slots (own_Q Z Φ) := backOf H hZ wc wz hf hl
variable {W kc ks : Nat} {Q : Option Value → Heap → List Loc → Prop} {g : JFrame} {argsL rest : List Value} {b : Addr}
theorem own_stat (X : Stand p l e R s m args below meth c T locs cells slots) (hx : p.tables.exec = Jvm.exec) (hml : c.maxLocals = mx) (hZ : Z.Warmed39 s.vm) (hown : s.vm.findClass own = some m.cls) {bytes' : ByteArray} {mx' : Nat} {rt' : Option FieldType}
    (w1 : (Cond.methodLink own index y).before a0 Z = true) (w2 : (Cond.static y).before a0 Z = true) (w3 : (Cond.initialized y.cls).before a0 Z = true) (w4 : (Cond.code y bytes' mx' rt').before a0 Z = true) (hy : y.cls ≠ "java/lang/invoke/MethodHandle" ∧ y.cls ≠ "java/lang/invoke/VarHandle")
    (hK : own_Pay l R p e below s args y 3 W argsL.toArray h kc ks Q) (cm : Steps p.tables e below S0 (T.setTop g)) (hlen : ∀ sig, parseMethodDescriptor y.desc = some sig → argsL.length = sig.parameters.length) (hst : g.stack = argsL.reverse ++ rest) (hd : decode c.code g.pc = .ok (.invokestatic index, 3)) (eT : T.heap = h) (hc : cells + kc ≤ R.cells := by decide) (hs : slots + ks ≤ R.slots := by decide) (hg : g.method = m := by rfl) (hsz : g.locals.size = mx := by rfl) (hW : 2 * g.monitorRoom + (rest.map fun v => v.category).sum ≤ W := by show 2 * 0 + _ ≤ _; exact Nat.le_of_eq rfl) :
    ∃ (v : Option Value) (T' : State) (L : List Loc), Stand p l e R s m args below meth c T' (locs ++ L) (cells + kc) (slots + ks) ∧ Q v T'.heap L ∧ Steps p.tables e below S0 (T'.setTop { g with pc := g.pc + 3, stack := v.toList ++ rest }) := by
  obtain ⟨v, _, ⟨T', L', k', n'⟩, -, X', ⟨L, hQ, l1, l2, l3⟩, st⟩ := Jvm.LawKit.callS X hx (y := y) hown (mvT hZ w1) (mvT hZ w2) (mvT hZ w3) (mvT hZ w4) hy hK hg (by rw [hml]; exact hsz) (argsL := argsL) (rest := rest) hlen hst hW hd (fun _ _ => ⟨rfl, eT, hc, hs⟩)
  dsimp only [Pt.U, Pt.locs, Pt.cells, Pt.slots] at X' l1 l2 l3 st hQ
  subst l1 l2 l3
  exact ⟨v, T', L, X', hQ, cm.trans (st _ (Steps.refl _))⟩
theorem own_spec (X : Stand p l e R s m args below meth c T locs cells slots) (hx : p.tables.exec = Jvm.exec) (hml : c.maxLocals = mx) (hZ : Z.Warmed39 s.vm) (hown : s.vm.findClass own = some m.cls) {bytes' : ByteArray} {mx' : Nat} (hy1 : y.name = "<init>")
    (w1 : (Cond.methodLink own index y).before a0 Z = true) (w2 : (Cond.instanceMethod y).before a0 Z = true) (w4 : (Cond.code y bytes' mx' none).before a0 Z = true) (hy : y.cls ≠ "java/lang/invoke/MethodHandle" ∧ y.cls ≠ "java/lang/invoke/VarHandle")
    (hK : own_Pay l R p e below s args y 3 W (.ref b :: argsL).toArray h kc ks Q) (cm : Steps p.tables e below S0 (T.setTop g)) (hlen : ∀ sig, parseMethodDescriptor y.desc = some sig → argsL.length = sig.parameters.length) (hst : g.stack = argsL.reverse ++ .ref b :: rest) (hd : decode c.code g.pc = .ok (.invokespecial index, 3)) (eT : T.heap = h) (hc : cells + kc ≤ R.cells := by decide) (hs : slots + ks ≤ R.slots := by decide) (hg : g.method = m := by rfl) (hsz : g.locals.size = mx := by rfl) (hW : 2 * g.monitorRoom + (rest.map fun v => v.category).sum ≤ W := by show 2 * 0 + _ ≤ _; exact Nat.le_of_eq rfl) :
    ∃ (v : Option Value) (T' : State) (L : List Loc), Stand p l e R s m args below meth c T' (locs ++ L) (cells + kc) (slots + ks) ∧ Q v T'.heap L ∧ Steps p.tables e below S0 (T'.setTop { g with pc := g.pc + 3, stack := v.toList ++ rest }) := by
  obtain ⟨v, _, ⟨T', L', k', n'⟩, -, X', ⟨L, hQ, l1, l2, l3⟩, st⟩ := X.specialBack hx (y := y) hy1 hown (mvT hZ w1) (mvT hZ w2) (mvT hZ w4) hy hK hg (by rw [hml]; exact hsz) cm (a := b) (argsL := argsL) (rest := rest) hlen hst hW hd (fun _ _ => ⟨rfl, eT, hc, hs⟩)
  dsimp only [Pt.U, Pt.locs, Pt.cells, Pt.slots] at X' l1 l2 l3 st hQ
  subst l1 l2 l3
  exact ⟨v, T', L, X', hQ, st⟩
theorem own_virt (X : Stand p l e R s m args below meth c T locs cells slots) (hx : p.tables.exec = Jvm.exec) (hml : c.maxLocals = mx) (hZ : Z.Warmed39 s.vm) (hown : s.vm.findClass own = some m.cls)
    (w1 : (Cond.methodLink own index y).before a0 Z = true) (w2 : (Cond.declares y).before a0 Z = true) (w3 : (Cond.selects C y z).before a0 Z = true) (w4 : (Cond.instanceMethod z).before a0 Z = true) {Dn : String} (w5 : (Cond.selects Dn y y).before a0 Z = true) (hy : y.cls ≠ "java/lang/invoke/MethodHandle" ∧ y.cls ≠ "java/lang/invoke/VarHandle")
    (hK : own_Pay l R p e below s args z 3 W (.ref b :: argsL).toArray h kc ks Q) (E : Exa Z h b C) (cm : Steps p.tables e below S0 (T.setTop g)) (hlen : ∀ sig, parseMethodDescriptor y.desc = some sig → argsL.length = sig.parameters.length) (hst : g.stack = argsL.reverse ++ .ref b :: rest) (hd : decode c.code g.pc = .ok (.invokevirtual index, 3)) (eT : T.heap = h) (hc : cells + kc ≤ R.cells := by decide) (hs : slots + ks ≤ R.slots := by decide) (hg : g.method = m := by rfl) (hsz : g.locals.size = mx := by rfl) (hW : 2 * g.monitorRoom + (rest.map fun v => v.category).sum ≤ W := by show 2 * 0 + _ ≤ _; exact Nat.le_of_eq rfl) :
    ∃ (v : Option Value) (T' : State) (L : List Loc), Stand p l e R s m args below meth c T' (locs ++ L) (cells + kc) (slots + ks) ∧ Q v T'.heap L ∧ Steps p.tables e below S0 (T'.setTop { g with pc := g.pc + 3, stack := v.toList ++ rest }) := by
  obtain ⟨cq, kq, qa, qb, qc⟩ := isOf hZ eT E
  obtain ⟨v, _, ⟨T', L', k', n'⟩, -, X', ⟨L, hQ, l1, l2, l3⟩, st⟩ := X.virtualBack hx (y := y) (z := z) hown (mvT hZ w1) (mvT hZ w2) (notFace_of_selects (args := #[]) (mvT hZ w5)) (mvT hZ w3) (mvT hZ w4) hy hK qa qc hg (by rw [hml]; exact hsz) cm (argsL := argsL) (rest := rest) hlen hst hW hd (fun _ _ => ⟨rfl, eT, hc, hs⟩)
  dsimp only [Pt.U, Pt.locs, Pt.cells, Pt.slots] at X' l1 l2 l3 st hQ
  subst l1 l2 l3
  exact ⟨v, T', L, X', hQ, st⟩
theorem own_face (X : Stand p l e R s m args below meth c T locs cells slots) (hx : p.tables.exec = Jvm.exec) (hml : c.maxLocals = mx) (hZ : Z.Warmed39 s.vm) (hown : s.vm.findClass own = some m.cls)
    (w1 : (Cond.methodLink own index y).before a0 Z = true) (w2 : (Cond.declares y).before a0 Z = true) (w3 : (Cond.interfaceMethod y.cls y.cls y.name y.desc).before args s = true) (w4 : (Cond.selects C y z).before a0 Z = true) (w5 : (Cond.instanceMethod z).before a0 Z = true) (w6 : (Cond.publicMethod z).before a0 Z = true) (w7 : (Cond.unhidden C y.name y.desc).before a0 Z = true) (w8 : (Cond.castable C y.cls).before a0 Z = true) (hy : y.cls ≠ "java/lang/invoke/MethodHandle" ∧ y.cls ≠ "java/lang/invoke/VarHandle")
    (hK : own_Pay l R p e below s args z 5 W (.ref b :: argsL).toArray h kc ks Q) (E : Exa Z h b C) (cm : Steps p.tables e below S0 (T.setTop g)) (hlen : ∀ sig, parseMethodDescriptor y.desc = some sig → argsL.length = sig.parameters.length) (hst : g.stack = argsL.reverse ++ .ref b :: rest) (hd : decode c.code g.pc = .ok (.invokeinterface index count, 5)) (eT : T.heap = h) (hc : cells + kc ≤ R.cells := by decide) (hs : slots + ks ≤ R.slots := by decide) (hg : g.method = m := by rfl) (hsz : g.locals.size = mx := by rfl) (hW : 2 * g.monitorRoom + (rest.map fun v => v.category).sum ≤ W := by show 2 * 0 + _ ≤ _; exact Nat.le_of_eq rfl) :
    ∃ (v : Option Value) (T' : State) (L : List Loc), Stand p l e R s m args below meth c T' (locs ++ L) (cells + kc) (slots + ks) ∧ Q v T'.heap L ∧ Steps p.tables e below S0 (T'.setTop { g with pc := g.pc + 5, stack := v.toList ++ rest }) := by
  obtain ⟨cq, kq, qa, qb, qc⟩ := isOf hZ eT E
  obtain ⟨v, _, ⟨T', L', k', n'⟩, -, X', ⟨L, hQ, l1, l2, l3⟩, st⟩ := X.interfaceBack hx (xi := y) (y := z) hown (mvT hZ w1) (mvT hZ w2) w3 (mvT hZ w4) (mvT hZ w5) (mvT hZ w6) (mvT hZ w7) (mvT hZ w8) hy hK qa qb qc hg (by rw [hml]; exact hsz) cm (argsL := argsL) (rest := rest) hlen hst hW hd (fun _ _ => ⟨rfl, eT, hc, hs⟩)
  dsimp only [Pt.U, Pt.locs, Pt.cells, Pt.slots] at X' l1 l2 l3 st hQ
  subst l1 l2 l3
  exact ⟨v, T', L, X', hQ, st⟩
/-- for the sizes alone -/
theorem own_kz {h1 h2 h3 : Heap} {w1 w2 : List Addr} (K : Keep h1 h2 w1) (K' : Keep h2 h3 w2) : Keep h1 h3 (w1 ++ w2) := by
  refine ⟨Nat.le_trans K.1 K'.1, fun x c q r => K'.2.1 x c (K.2.1 x c q fun z => r (List.mem_append_left _ z)) fun z => r (List.mem_append_right _ z), fun x c q => ?_⟩
  obtain ⟨c1, q1, r1, r2, r3⟩ := K.2.2 x c q
  obtain ⟨c2, q2, t1, t2, t3⟩ := K'.2.2 x c1 q1
  exact ⟨c2, q2, t1.trans r1, t2.trans r2, t3.trans r3⟩
/-- what is returned: a reference -/
theorem own_retR (X : Stand p l e R s m args below meth c T locs cells slots) (hx : p.tables.exec = Jvm.exec) {pc : Nat} {Ls : Array Slot} {w : Value} {t : FieldType} {rest : List Value} (cm : Steps p.tables e below S0 (T.setTop (mkF m pc Ls (w :: rest)))) (hret : meth.sig.returnType = some t) (ht : t.isReference = true) (hw : w.isRef = true) (hd : decode c.code pc = .ok (.areturn, 1)) {fs : List Frame} (hl : ∀ (f : JFrame) (acts : List Action), f.method = m → f.locked = none → f.entered = [] → (doReturn e (T.setTop f) acts (some w)).1 = T.setFrames fs) : Steps p.tables e below S0 (T.setFrames fs) :=
  cm.trans (retOut X hx hret (by cases t <;> first | rfl | cases ht) (Or.inr (Or.inr (Or.inr (Or.inr ⟨rfl, ht, hw⟩)))) hd hl)
end OwnKit
end Jvm.Pilot.@@N@@
namespace Jvm.Pilot.@@N@@
open Jvm Jvm.ClassFile Sem Op Lib Jvm.Free Jvm.Stand Jvm.LawKit Jvm.RoadKit Bundle Jvm.Pilot.@@N@@.Jvm.D
section OwnWide
variable {p : Program} {l : Launch} {e : Env} {R : Room} {s : State} {m : MethodId} {args : Array Value} {below : List Frame} {meth : Method} {c : Code} {T S0 Z : State} {locs : List Loc} {cells slots : Nat} {a0 : Array Value} {h h0 : Heap} {own C : String} {index count : Nat} {y z : MethodName} {bytes : ByteArray} {mx : Nat} {rt : Option FieldType} {rm : Room} {as : Array Value} {Φ : Option Value → Heap → Prop} {EL : List (String × Nat)} {sf : List Addr} {vm0 : Vm}
/-- the wide contract: String constants may be resolved and interned meanwhile; sf: objects handed in that no held constant is -/
def own_WC (l : Launch) (Z : State) (EL : List (String × Nat)) (y : MethodName) (bytes : ByteArray) (mx : Nat) (rt : Option FieldType) (rm : Room) (as : Array Value) (h0 : Heap) (sf : List Addr) (Φ : Option Value → Heap → Prop) : Prop :=
  MetFree l y (head1 [Jvm.Cond.code y bytes mx rt] rm) (fun a U => a = as ∧ Z.Warmed39 U.vm ∧ U.heap = h0 ∧ CHv Z EL U.vm h0 ∧ ∀ x ∈ sf, Safe Z EL U.vm h0 x) (fun _ _ _ _ _ => True) (fun _ U o U' => ∃ v L, o = .returned v ∧ own_Q Z Φ v U'.heap L ∧ CHr Z EL U.vm U.heap U'.vm U'.heap ∧ ReturnedEndW U o U' L rm.cells rm.slots)
def own_WW (l : Launch) (Z : State) (EL : List (String × Nat)) (y : MethodName) (bytes : ByteArray) (mx : Nat) (rt : Option FieldType) (rm : Room) (as : Array Value) (h0 : Heap) (sf : List Addr) (Φ : Option Value → Heap → Prop) : Prop :=
  ∀ (p : Program) (e : Env) (s : State) (m : MethodId) (below : List Frame) (meth : Method) (c : Code) (s₁ S0 : State), Stand p l e rm (s.setVm s.vm) m as below meth c s₁ [] 0 0 → p.tables.exec = Jvm.exec → c.code = bytes → c.maxLocals = mx → meth.sig.returnType = rt → meth.name = y.name → s.vm.findClass y.cls = some m.cls → Z.Warmed39 s.vm → s₁.heap = h0 → s.Since s.vm 0 → CHr Z EL s.vm h0 s.vm h0 → (∀ x ∈ sf, Safe Z EL s.vm h0 x) →
    Steps p.tables e below S0 (s₁.setTop (entryFrame m as mx)) →
    ∃ (T : State) (vm : Vm) (k : Nat) (v : Option Value) (locs : List Loc) (cells slots : Nat), Stand p l e rm (s.setVm vm) m as below meth c T locs cells slots ∧ cells ≤ rm.cells ∧ slots ≤ rm.slots ∧ (rt = none → v = none) ∧ Fr Z.heap.size locs ∧ s.Since vm k ∧ k ≤ T.heap.size ∧ Z.Warmed39 vm ∧ CHr Z EL s.vm h0 vm T.heap ∧ Φ v T.heap ∧
      ∀ fs, (∀ (f : JFrame) (acts : List Action), f.method = m → f.locked = none → f.entered = [] → (doReturn e (T.setTop f) acts v).1 = T.setFrames fs) → Steps p.tables e below S0 (T.setFrames fs)
theorem own_wmet {ws : List Jvm.Cond} (hx : plainFor y = true) (hEL : EW Z a0 EL) (walk : own_WW l Z EL y bytes mx rt rm as h0 sf Φ) :
    MetFree l y (head1 (Jvm.Cond.code y bytes mx rt :: ws) rm) (fun a U => a = as ∧ Z.Warmed39 U.vm ∧ U.heap = h0 ∧ CHv Z EL U.vm h0 ∧ ∀ x ∈ sf, Safe Z EL U.vm h0 x) (fun _ _ _ _ _ => True) (fun _ U o U' => ∃ v L, o = .returned v ∧ own_Q Z Φ v U'.heap L ∧ CHr Z EL U.vm U.heap U'.vm U'.heap ∧ ReturnedEndW U o U' L rm.cells rm.slots) := by
  refine MetFree.of_bodySF hx hisR ?_
  intro p e s m args below meth c s₁ Bd hml0 hP hK
  obtain ⟨rfl, hZ, hh, hC, hsf⟩ := hP
  have X0 := Stand.of_body Bd
  obtain ⟨T, vm, k, v, locs, cells, slots, X, hc, hs, hv, hN, hS, hk, hZ', hCR, hΦ, st⟩ := walk p e s m below meth c s₁ _ X0 Bd.exec Bd.bytes hml0 Bd.returns (name_of_methodNamed Bd.named Bd.method).1 (findClass_of_methodNamed Bd.named) hZ (by rw [← hh, Bd.state]; rfl) ((State.WarmedH.refl s).since _) (CHr.refl hC) hsf (Steps.refl _)
  obtain ⟨fs, hr, hrun, hended, hE1, hE2, hE3, hE4⟩ := X.leaveW hS hk (v := v) (fun q => hv (by rw [← Bd.returns]; exact q)) Bd.notSynchronized
  exact ⟨_, _, st fs hr, hrun, hended, _, _, rfl, ⟨hN, hΦ⟩, by rw [hh]; exact (show CHr Z EL s.vm h0 T.vm T.heap from hCR.trans (CHv.at X hZ' hEL hCR.1)), hE1, hE2, hE3, hE4.mono hc hs⟩
theorem own_wc (hx : plainFor y = true) (hEL : EW Z a0 EL) (walk : own_WW l Z EL y bytes mx rt rm as h0 sf Φ) : own_WC l Z EL y bytes mx rt rm as h0 sf Φ := own_wmet hx hEL walk
/-- a payer that may intern -/
abbrev own_PayW (l : Launch) (R : Room) (p : Program) (e : Env) (below : List Frame) (s : State) (vm0 : Vm) (args : Array Value) (y : MethodName) (len W : Nat) (as : Array Value) (h : Heap) (kc ks : Nat) (Z : State) (EL : List (String × Nat)) (Q : Option Value → Heap → List Loc → Prop) : Prop :=
  BackS l R p e below (s.setVm vm0) args y len W (fun A a => a = as ∧ A.U.heap = h ∧ A.cells + kc ≤ R.cells ∧ A.slots + ks ≤ R.slots) (fun A _ v B => ∃ L, Q v B.U.heap L ∧ B.locs = A.locs ++ L ∧ B.cells = A.cells + kc ∧ B.slots = A.slots + ks ∧ CHr Z EL vm0 h B.U.vm B.U.heap)
theorem own_wpay {len W : Nat} (hM : own_WC l Z EL y bytes mx rt rm as h sf Φ) (hZ : Z.Warmed39 vm0) (wc : (Cond.code y bytes mx rt).before a0 Z = true) (wz : (Cond.initialized y.cls).before a0 Z = true) (hf : rm.frames + 1 ≤ R.frames) (hl : W + (mx + 11) + rm.locals ≤ R.locals) (hEL : EW Z a0 EL) (H : CHv Z EL vm0 h) (hsf : ∀ x ∈ sf, x < h.size ∧ Safe Z EL vm0 h x) :
    own_PayW l R p e below s vm0 args y len W as h rm.cells rm.slots Z EL (own_Q Z Φ) :=
  BackS.of_freeW (bytes := bytes) (maxL := mx) (ret := rt) (E := fun _ first o t L k n => k = rm.cells ∧ n = rm.slots ∧ (∃ v, o = .returned v ∧ own_Q Z Φ v t.heap L) ∧ CHr Z EL first.vm first.heap t.vm t.heap) hM hf hl
    (fun m meth c A a Y hp => have hU : Z.Warmed39 A.U.vm := wtrans (s := s.setVm vm0) hZ Y.warmed
      ⟨by show (Cond.and _ .tt).before a A.U = true; rw [Cond.before_and, mv hU wc]; rfl, mv hU wc, mv hU wz, hp.2.2.1, hp.2.2.2⟩)
    (fun m meth c A a g mk Y hp => ⟨hp.1, wtrans (s := s.setVm vm0) hZ Y.warmed, hp.2.1, (CHv.at Y hZ hEL H).1, fun x hx => (CHv.at Y hZ hEL H).safe (hsf x hx).1 (hsf x hx).2⟩) (fun _ _ _ _ _ _ _ _ _ => trivial)
    (fun _ _ _ _ ⟨v, L, h1, h2, h3, h4⟩ => ⟨L, _, _, h4, rfl, rfl, ⟨v, h1, h2⟩, h3⟩)
    (fun m meth c A a g mk v t L k n Y hp _ _ ⟨e1, e2, ⟨v', e3, e4⟩, e5⟩ => by
      cases e3; subst e1 e2
      refine ⟨L, e4, rfl, rfl, rfl, (CHv.at Y hZ hEL H).trans ?_⟩
      rw [← hp.2.1]; exact e5)
variable {W kc ks k0 : Nat} {Q : Option Value → Heap → List Loc → Prop} {g : JFrame} {argsL rest : List Value} {b : Addr}
theorem own_wend {T' : State} (hZ : Z.Warmed39 vm0) (hown : vm0.findClass own = some m.cls) (hS : s.Since vm0 k0) (hk : k0 ≤ T.heap.size) (hS' : (s.setVm vm0).Since T'.vm T'.heap.size) (hg : T.heap.size ≤ T'.heap.size) : s.Since T'.vm T'.heap.size ∧ Z.Warmed39 T'.vm ∧ T'.vm.findClass own = some m.cls :=
  ⟨hS.trans hS' (Nat.le_trans hk hg), State.Warmed39.trans (t := s.setVm vm0) hZ hS'.1, by rw [hS'.1.alike.findClass]; exact hown⟩
theorem own_wstat (X : Stand p l e R (s.setVm vm0) m args below meth c T locs cells slots) (hx : p.tables.exec = Jvm.exec) (hml : c.maxLocals = mx) (hZ : Z.Warmed39 vm0) (hown : vm0.findClass own = some m.cls) (hS : s.Since vm0 k0) (hk : k0 ≤ h.size) {bytes' : ByteArray} {mx' : Nat} {rt' : Option FieldType}
    (w1 : (Cond.methodLink own index y).before a0 Z = true) (w2 : (Cond.static y).before a0 Z = true) (w3 : (Cond.initialized y.cls).before a0 Z = true) (w4 : (Cond.code y bytes' mx' rt').before a0 Z = true) (hy : y.cls ≠ "java/lang/invoke/MethodHandle" ∧ y.cls ≠ "java/lang/invoke/VarHandle")
    (hK : own_PayW l R p e below s vm0 args y 3 W argsL.toArray h kc ks Z EL Q) (cm : Steps p.tables e below S0 (T.setTop g)) (hlen : ∀ sig, parseMethodDescriptor y.desc = some sig → argsL.length = sig.parameters.length) (hst : g.stack = argsL.reverse ++ rest) (hd : decode c.code g.pc = .ok (.invokestatic index, 3)) (eT : T.heap = h) (hc : cells + kc ≤ R.cells := by decide) (hs : slots + ks ≤ R.slots := by decide) (hg : g.method = m := by rfl) (hsz : g.locals.size = mx := by rfl) (hW : 2 * g.monitorRoom + (rest.map fun v => v.category).sum ≤ W := by show 2 * 0 + _ ≤ _; exact Nat.le_of_eq rfl) :
    ∃ (v : Option Value) (T' : State) (L : List Loc), Stand p l e R (s.setVm T'.vm) m args below meth c T' (locs ++ L) (cells + kc) (slots + ks) ∧ s.Since T'.vm T'.heap.size ∧ Z.Warmed39 T'.vm ∧ T'.vm.findClass own = some m.cls ∧ CHr Z EL vm0 h T'.vm T'.heap ∧ Q v T'.heap L ∧ Steps p.tables e below S0 (T'.setTop { g with pc := g.pc + 3, stack := v.toList ++ rest }) := by
  obtain ⟨v, _, ⟨T', L', k', n'⟩, -, X', hS', hg', ⟨L, hQ, l1, l2, l3, l4⟩, st⟩ := callSS X hx (y := y) hown (mvT (s := s.setVm vm0) hZ w1) (mvT (s := s.setVm vm0) hZ w2) (mvT (s := s.setVm vm0) hZ w3) (mvT (s := s.setVm vm0) hZ w4) hy hK hg (by rw [hml]; exact hsz) (argsL := argsL) (rest := rest) hlen hst hW hd (fun _ _ => ⟨rfl, eT, hc, hs⟩)
  dsimp only [Pt.U, Pt.locs, Pt.cells, Pt.slots] at X' l1 l2 l3 l4 st hQ hS' hg'
  subst l1 l2 l3
  obtain ⟨q1, q2, q3⟩ := own_wend hZ hown hS (by rw [eT]; exact hk) hS' hg'
  exact ⟨v, T', L, X', q1, q2, q3, l4, hQ, cm.trans st⟩
theorem own_wspec (X : Stand p l e R (s.setVm vm0) m args below meth c T locs cells slots) (hx : p.tables.exec = Jvm.exec) (hml : c.maxLocals = mx) (hZ : Z.Warmed39 vm0) (hown : vm0.findClass own = some m.cls) (hS : s.Since vm0 k0) (hk : k0 ≤ h.size) {bytes' : ByteArray} {mx' : Nat} (hy1 : y.name = "<init>")
    (w1 : (Cond.methodLink own index y).before a0 Z = true) (w2 : (Cond.instanceMethod y).before a0 Z = true) (w4 : (Cond.code y bytes' mx' none).before a0 Z = true) (hy : y.cls ≠ "java/lang/invoke/MethodHandle" ∧ y.cls ≠ "java/lang/invoke/VarHandle")
    (hK : own_PayW l R p e below s vm0 args y 3 W (.ref b :: argsL).toArray h kc ks Z EL Q) (cm : Steps p.tables e below S0 (T.setTop g)) (hlen : ∀ sig, parseMethodDescriptor y.desc = some sig → argsL.length = sig.parameters.length) (hst : g.stack = argsL.reverse ++ .ref b :: rest) (hd : decode c.code g.pc = .ok (.invokespecial index, 3)) (eT : T.heap = h) (hc : cells + kc ≤ R.cells := by decide) (hs : slots + ks ≤ R.slots := by decide) (hg : g.method = m := by rfl) (hsz : g.locals.size = mx := by rfl) (hW : 2 * g.monitorRoom + (rest.map fun v => v.category).sum ≤ W := by show 2 * 0 + _ ≤ _; exact Nat.le_of_eq rfl) :
    ∃ (v : Option Value) (T' : State) (L : List Loc), Stand p l e R (s.setVm T'.vm) m args below meth c T' (locs ++ L) (cells + kc) (slots + ks) ∧ s.Since T'.vm T'.heap.size ∧ Z.Warmed39 T'.vm ∧ T'.vm.findClass own = some m.cls ∧ CHr Z EL vm0 h T'.vm T'.heap ∧ Q v T'.heap L ∧ Steps p.tables e below S0 (T'.setTop { g with pc := g.pc + 3, stack := v.toList ++ rest }) := by
  obtain ⟨v, _, ⟨T', L', k', n'⟩, -, X', hS', hg', ⟨L, hQ, l1, l2, l3, l4⟩, st⟩ := X.specialBackS hx (y := y) hy1 hown (mvT (s := s.setVm vm0) hZ w1) (mvT (s := s.setVm vm0) hZ w2) (mvT (s := s.setVm vm0) hZ w4) hy hK hg (by rw [hml]; exact hsz) cm (a := b) (argsL := argsL) (rest := rest) hlen hst hW hd (fun _ _ => ⟨rfl, eT, hc, hs⟩)
  dsimp only [Pt.U, Pt.locs, Pt.cells, Pt.slots] at X' l1 l2 l3 l4 st hQ hS' hg'
  subst l1 l2 l3
  obtain ⟨q1, q2, q3⟩ := own_wend hZ hown hS (by rw [eT]; exact hk) hS' hg'
  exact ⟨v, T', L, X', q1, q2, q3, l4, hQ, st⟩
theorem own_wvirt (X : Stand p l e R (s.setVm vm0) m args below meth c T locs cells slots) (hx : p.tables.exec = Jvm.exec) (hml : c.maxLocals = mx) (hZ : Z.Warmed39 vm0) (hown : vm0.findClass own = some m.cls) (hS : s.Since vm0 k0) (hk : k0 ≤ h.size)
    (w1 : (Cond.methodLink own index y).before a0 Z = true) (w2 : (Cond.declares y).before a0 Z = true) (w3 : (Cond.selects C y z).before a0 Z = true) (w4 : (Cond.instanceMethod z).before a0 Z = true) {Dn : String} (w5 : (Cond.selects Dn y y).before a0 Z = true) (hy : y.cls ≠ "java/lang/invoke/MethodHandle" ∧ y.cls ≠ "java/lang/invoke/VarHandle")
    (hK : own_PayW l R p e below s vm0 args z 3 W (.ref b :: argsL).toArray h kc ks Z EL Q) (E : Exa Z h b C) (cm : Steps p.tables e below S0 (T.setTop g)) (hlen : ∀ sig, parseMethodDescriptor y.desc = some sig → argsL.length = sig.parameters.length) (hst : g.stack = argsL.reverse ++ .ref b :: rest) (hd : decode c.code g.pc = .ok (.invokevirtual index, 3)) (eT : T.heap = h) (hc : cells + kc ≤ R.cells := by decide) (hs : slots + ks ≤ R.slots := by decide) (hg : g.method = m := by rfl) (hsz : g.locals.size = mx := by rfl) (hW : 2 * g.monitorRoom + (rest.map fun v => v.category).sum ≤ W := by show 2 * 0 + _ ≤ _; exact Nat.le_of_eq rfl) :
    ∃ (v : Option Value) (T' : State) (L : List Loc), Stand p l e R (s.setVm T'.vm) m args below meth c T' (locs ++ L) (cells + kc) (slots + ks) ∧ s.Since T'.vm T'.heap.size ∧ Z.Warmed39 T'.vm ∧ T'.vm.findClass own = some m.cls ∧ CHr Z EL vm0 h T'.vm T'.heap ∧ Q v T'.heap L ∧ Steps p.tables e below S0 (T'.setTop { g with pc := g.pc + 3, stack := v.toList ++ rest }) := by
  obtain ⟨cq, kq, qa, qb, qc⟩ := isOf (s := s.setVm vm0) hZ eT E
  obtain ⟨v, _, ⟨T', L', k', n'⟩, -, X', hS', hg', ⟨L, hQ, l1, l2, l3, l4⟩, st⟩ := X.virtualBackS hx (y := y) (z := z) hown (mvT (s := s.setVm vm0) hZ w1) (mvT (s := s.setVm vm0) hZ w2) (notFace_of_selects (args := #[]) (mvT (s := s.setVm vm0) hZ w5)) (mvT (s := s.setVm vm0) hZ w3) (mvT (s := s.setVm vm0) hZ w4) hy hK qa qc hg (by rw [hml]; exact hsz) cm (argsL := argsL) (rest := rest) hlen hst hW hd (fun _ _ => ⟨rfl, eT, hc, hs⟩)
  dsimp only [Pt.U, Pt.locs, Pt.cells, Pt.slots] at X' l1 l2 l3 l4 st hQ hS' hg'
  subst l1 l2 l3
  obtain ⟨q1, q2, q3⟩ := own_wend hZ hown hS (by rw [eT]; exact hk) hS' hg'
  exact ⟨v, T', L, X', q1, q2, q3, l4, hQ, st⟩
end OwnWide
end Jvm.Pilot.@@N@@
namespace Jvm.Pilot.@@N@@
open Jvm Jvm.ClassFile Sem Op Lib Jvm.Free Jvm.Stand Jvm.LawKit Jvm.RoadKit Bundle Jvm.Pilot.@@N@@.Jvm.D
section OwnKnown
variable {p : Program} {l : Launch} {e : Env} {R : Room} {s : State} {m : MethodId} {args : Array Value} {below : List Frame} {meth : Method} {c : Code} {T S0 Z : State} {locs : List Loc} {cells slots : Nat} {a0 : Array Value} {h h0 : Heap} {own C : String} {index count : Nat} {y z : MethodName} {bytes : ByteArray} {mx : Nat} {rt : Option FieldType} {rm : Room} {as : Array Value} {Φ : Option Value → Heap → Prop} {EL : List (String × Nat)} {sf : List Addr} {vm0 : Vm}
/-- the wide contract: String constants may be resolved and interned meanwhile; sf: objects handed in that no held constant is -/
def own_KC (l : Launch) (Z : State) (EL : List (String × Nat)) (y : MethodName) (bytes : ByteArray) (mx : Nat) (rt : Option FieldType) (rm : Room) (as : Array Value) (h0 : Heap) (sf : List Addr) (Φ : Option Value → Heap → Prop) : Prop :=
  MetFree l y (head1 [Jvm.Cond.code y bytes mx rt] rm) (fun a U => a = as ∧ Z.Warmed39 U.vm ∧ U.heap = h0 ∧ CHv Z EL U.vm h0 ∧ ∀ x ∈ sf, Safe Z EL U.vm h0 x) (fun _ _ bl s _ => s.vm.MethodsKnown ∧ s.vm.FramesKnown bl) (fun _ U o U' => ∃ v L, o = .returned v ∧ own_Q Z Φ v U'.heap L ∧ CHr Z EL U.vm U.heap U'.vm U'.heap ∧ ReturnedEndW U o U' L rm.cells rm.slots)
def own_KW (l : Launch) (Z : State) (EL : List (String × Nat)) (y : MethodName) (bytes : ByteArray) (mx : Nat) (rt : Option FieldType) (rm : Room) (as : Array Value) (h0 : Heap) (sf : List Addr) (Φ : Option Value → Heap → Prop) : Prop :=
  ∀ (p : Program) (e : Env) (s : State) (m : MethodId) (below : List Frame) (meth : Method) (c : Code) (s₁ S0 : State), Stand p l e rm (s.setVm s.vm) m as below meth c s₁ [] 0 0 → p.tables.exec = Jvm.exec → c.code = bytes → c.maxLocals = mx → meth.sig.returnType = rt → meth.name = y.name → s.vm.findClass y.cls = some m.cls → Z.Warmed39 s.vm → s₁.heap = h0 → s.Since s.vm 0 → CHr Z EL s.vm h0 s.vm h0 → (∀ x ∈ sf, Safe Z EL s.vm h0 x) →
    s.vm.MethodsKnown → s.vm.FramesKnown below →
    Steps p.tables e below S0 (s₁.setTop (entryFrame m as mx)) →
    ∃ (T : State) (vm : Vm) (k : Nat) (v : Option Value) (locs : List Loc) (cells slots : Nat), Stand p l e rm (s.setVm vm) m as below meth c T locs cells slots ∧ cells ≤ rm.cells ∧ slots ≤ rm.slots ∧ (rt = none → v = none) ∧ Fr Z.heap.size locs ∧ s.Since vm k ∧ k ≤ T.heap.size ∧ Z.Warmed39 vm ∧ CHr Z EL s.vm h0 vm T.heap ∧ Φ v T.heap ∧
      ∀ fs, (∀ (f : JFrame) (acts : List Action), f.method = m → f.locked = none → f.entered = [] → (doReturn e (T.setTop f) acts v).1 = T.setFrames fs) → Steps p.tables e below S0 (T.setFrames fs)
theorem own_kmet {ws : List Jvm.Cond} (hx : plainFor y = true) (hEL : EW Z a0 EL) (walk : own_KW l Z EL y bytes mx rt rm as h0 sf Φ) :
    MetFree l y (head1 (Jvm.Cond.code y bytes mx rt :: ws) rm) (fun a U => a = as ∧ Z.Warmed39 U.vm ∧ U.heap = h0 ∧ CHv Z EL U.vm h0 ∧ ∀ x ∈ sf, Safe Z EL U.vm h0 x) (fun _ _ bl s _ => s.vm.MethodsKnown ∧ s.vm.FramesKnown bl) (fun _ U o U' => ∃ v L, o = .returned v ∧ own_Q Z Φ v U'.heap L ∧ CHr Z EL U.vm U.heap U'.vm U'.heap ∧ ReturnedEndW U o U' L rm.cells rm.slots) := by
  refine MetFree.of_bodySF hx hisR ?_
  intro p e s m args below meth c s₁ Bd hml0 hP hK
  obtain ⟨rfl, hZ, hh, hC, hsf⟩ := hP
  have X0 := Stand.of_body Bd
  obtain ⟨T, vm, k, v, locs, cells, slots, X, hc, hs, hv, hN, hS, hk, hZ', hCR, hΦ, st⟩ := walk p e s m below meth c s₁ _ X0 Bd.exec Bd.bytes hml0 Bd.returns (name_of_methodNamed Bd.named Bd.method).1 (findClass_of_methodNamed Bd.named) hZ (by rw [← hh, Bd.state]; rfl) ((State.WarmedH.refl s).since _) (CHr.refl hC) hsf hK.1 hK.2 (Steps.refl _)
  obtain ⟨fs, hr, hrun, hended, hE1, hE2, hE3, hE4⟩ := X.leaveW hS hk (v := v) (fun q => hv (by rw [← Bd.returns]; exact q)) Bd.notSynchronized
  exact ⟨_, _, st fs hr, hrun, hended, _, _, rfl, ⟨hN, hΦ⟩, by rw [hh]; exact (show CHr Z EL s.vm h0 T.vm T.heap from hCR.trans (CHv.at X hZ' hEL hCR.1)), hE1, hE2, hE3, hE4.mono hc hs⟩
theorem own_kc (hx : plainFor y = true) (hEL : EW Z a0 EL) (walk : own_KW l Z EL y bytes mx rt rm as h0 sf Φ) : own_KC l Z EL y bytes mx rt rm as h0 sf Φ := own_kmet hx hEL walk
theorem own_kpay {len W : Nat} (hM : own_KC l Z EL y bytes mx rt rm as h sf Φ) (hZ : Z.Warmed39 vm0) (wc : (Cond.code y bytes mx rt).before a0 Z = true) (wz : (Cond.initialized y.cls).before a0 Z = true) (hf : rm.frames + 1 ≤ R.frames) (hl : W + (mx + 11) + rm.locals ≤ R.locals) (hEL : EW Z a0 EL) (H : CHv Z EL vm0 h) (hTK : vm0.MethodsKnown) (hBelow : vm0.FramesKnown below) (hsf : ∀ x ∈ sf, x < h.size ∧ Safe Z EL vm0 h x) :
    own_PayW l R p e below s vm0 args y len W as h rm.cells rm.slots Z EL (own_Q Z Φ) :=
  BackS.of_freeWG (bytes := bytes) (maxL := mx) (ret := rt) (E := fun _ first o t L k n => k = rm.cells ∧ n = rm.slots ∧ (∃ v, o = .returned v ∧ own_Q Z Φ v t.heap L) ∧ CHr Z EL first.vm first.heap t.vm t.heap) hM hf hl
    (fun m meth c A a Y hp => have hU : Z.Warmed39 A.U.vm := wtrans (s := s.setVm vm0) hZ Y.warmed
      ⟨by show (Cond.and _ .tt).before a A.U = true; rw [Cond.before_and, mv hU wc]; rfl, mv hU wc, mv hU wz, hp.2.2.1, hp.2.2.2⟩)
    (fun m meth c A a g mk Y hp => ⟨hp.1, wtrans (s := s.setVm vm0) hZ Y.warmed, hp.2.1, (CHv.at Y hZ hEL H).1, fun x hx => (CHv.at Y hZ hEL H).safe (hsf x hx).1 (hsf x hx).2⟩) (fun m meth c A a g mk Y _ hg => known_frames Y hg hTK hBelow)
    (fun _ _ _ _ ⟨v, L, h1, h2, h3, h4⟩ => ⟨L, _, _, h4, rfl, rfl, ⟨v, h1, h2⟩, h3⟩)
    (fun m meth c A a g mk v t L k n Y hp _ _ ⟨e1, e2, ⟨v', e3, e4⟩, e5⟩ => by
      cases e3; subst e1 e2
      refine ⟨L, e4, rfl, rfl, rfl, (CHv.at Y hZ hEL H).trans ?_⟩
      rw [← hp.2.1]; exact e5)
end OwnKnown
end Jvm.Pilot.@@N@@
namespace Jvm.Pilot.@@N@@
open Jvm Jvm.ClassFile Sem Op Lib Jvm.Free Jvm.Stand Jvm.LawKit Jvm.RoadKit Bundle Jvm.Pilot.@@N@@.Jvm.D
section OwnF
variable {p : Program} {l : Launch} {e : Env} {R : Room} {s : State} {m : MethodId} {args : Array Value} {below : List Frame} {meth : Method} {c : Code} {T S0 Z : State} {locs : List Loc} {cells slots : Nat} {a0 : Array Value} {h h0 : Heap} {own C : String} {index count : Nat} {y z : MethodName} {bytes : ByteArray} {mx : Nat} {rt : Option FieldType} {rm : Room} {as : Array Value} {Φ : Option Value → Heap → Prop}
/-- the narrow contract of a body beneath which a stack trace is filled in: the frames beneath are known -/
def own_FC (l : Launch) (Z : State) (y : MethodName) (bytes : ByteArray) (mx : Nat) (rt : Option FieldType) (rm : Room) (as : Array Value) (h0 : Heap) (Φ : Option Value → Heap → Prop) : Prop :=
  MetFree l y (head1 [Jvm.Cond.code y bytes mx rt] rm) (fun a U => a = as ∧ Z.Warmed39 U.vm ∧ U.heap = h0) (fun _ _ bl s _ => s.vm.MethodsKnown ∧ s.vm.FramesKnown bl) (fun _ U o U' => ∃ v L, o = .returned v ∧ own_Q Z Φ v U'.heap L ∧ FrameEnd U o U' L rm.cells rm.slots)
def own_FW (l : Launch) (Z : State) (y : MethodName) (bytes : ByteArray) (mx : Nat) (rt : Option FieldType) (rm : Room) (as : Array Value) (h0 : Heap) (Φ : Option Value → Heap → Prop) : Prop :=
  ∀ (p : Program) (e : Env) (s : State) (m : MethodId) (below : List Frame) (meth : Method) (c : Code) (s₁ S0 : State), Stand p l e rm s m as below meth c s₁ [] 0 0 → p.tables.exec = Jvm.exec → c.code = bytes → c.maxLocals = mx → meth.sig.returnType = rt → meth.name = y.name → s.vm.findClass y.cls = some m.cls → Z.Warmed39 s.vm → s₁.heap = h0 →
    s.heap = h0 → s.vm.MethodsKnown → s.vm.FramesKnown below →
    Steps p.tables e below S0 (s₁.setTop (entryFrame m as mx)) →
    ∃ (T : State) (v : Option Value) (locs : List Loc) (cells slots : Nat), Stand p l e rm s m as below meth c T locs cells slots ∧ cells ≤ rm.cells ∧ slots ≤ rm.slots ∧ (rt = none → v = none) ∧ Fr Z.heap.size locs ∧ Φ v T.heap ∧
      ∀ fs, (∀ (f : JFrame) (acts : List Action), f.method = m → f.locked = none → f.entered = [] → (doReturn e (T.setTop f) acts v).1 = T.setFrames fs) → Steps p.tables e below S0 (T.setFrames fs)
theorem own_fc (hx : plainFor y = true) (walk : own_FW l Z y bytes mx rt rm as h0 Φ) : own_FC l Z y bytes mx rt rm as h0 Φ := by
  refine MetFree.of_bodySF hx hisR ?_
  intro p e s m args below meth c s₁ Bd hml0 hP hK
  obtain ⟨rfl, hZ, hh⟩ := hP
  obtain ⟨T, v, locs, cells, slots, X, hc, hs, hv, hN, hΦ, st⟩ := walk p e s m below meth c s₁ _ (Stand.of_body Bd) Bd.exec Bd.bytes hml0 Bd.returns (name_of_methodNamed Bd.named Bd.method).1 (findClass_of_methodNamed Bd.named) hZ (by rw [← hh, Bd.state]; rfl) hh hK.1 hK.2 (Steps.refl _)
  obtain ⟨fs, hr, hrun, hended, hW, hsame⟩ := X.leave (v := v) (fun q => hv (by rw [← Bd.returns]; exact q))
  exact ⟨_, _, st fs hr, hrun, hended, _, _, rfl, ⟨hN, hΦ⟩, ⟨_, rfl⟩, hW, hsame.mono hc hs⟩
theorem own_fpay {len W : Nat} (H : own_FC l Z y bytes mx rt rm as h Φ) (hZ : Z.Warmed39 s.vm) (wc : (Cond.code y bytes mx rt).before a0 Z = true) (wz : (Cond.initialized y.cls).before a0 Z = true) (hf : rm.frames + 1 ≤ R.frames) (hl : W + (mx + 11) + rm.locals ≤ R.locals) (hTK : s.vm.MethodsKnown) (hBe : s.vm.FramesKnown below) :
    own_Pay l R p e below s args y len W as h rm.cells rm.slots (own_Q Z Φ) := backOfKL H hZ wc wz hf hl hTK hBe
theorem own_b0 {a : Addr} : ∀ x ∈ ([] : List Loc), x.base = a := fun _ q => nomatch q
theorem own_bS {a : Addr} {sl : Nat} {L : List Loc} (q : ∀ x ∈ L, x.base = a) : ∀ x ∈ L ++ [⟨a, sl⟩], x.base = a := fun x hx => (List.mem_append.mp hx).elim (q x) fun r => by rw [List.mem_singleton.mp r]
theorem own_bA {a : Addr} {L L' : List Loc} (q : ∀ x ∈ L, x.base = a) (r : ∀ x ∈ L', x.base = a) : ∀ x ∈ L ++ L', x.base = a := fun x hx => (List.mem_append.mp hx).elim (q x) (r x)
/-- what a walk leaves that has written in one cell alone -/
theorem own_keepS {a : Addr} (X : Stand p l e R s m args below meth c T locs cells slots) (hL : ∀ x ∈ locs, x.base = a) (hh : s.heap = h0) : Keep h0 T.heap [a] ∧ (Unt h0 a → Unt T.heap a) := by
  subst hh
  obtain ⟨-, h2, -, -, -, h6⟩ := X.same
  refine ⟨⟨h2, fun x cl hx hn => State.sameButNew.kept_off X.same (fun i hm => hn (List.mem_singleton.mpr (hL _ hm))) hx, fun x cl hx => ?_⟩, ?_⟩
  · obtain ⟨c', q1, q2, q3, -⟩ := h6 x cl hx
    exact ⟨c', q1, by rw [q2], by rw [q2], q3⟩
  · rintro ⟨cl, u1, u2, u3⟩
    obtain ⟨c', q1, q2, -⟩ := h6 a cl u1
    exact ⟨c', q1, by rw [q2]; exact u2, by rw [q2]; exact u3⟩
end OwnF
end Jvm.Pilot.@@N@@
namespace Jvm.Pilot.@@N@@
open Jvm Jvm.ClassFile Sem Op Lib Jvm.Free Jvm.Free.SB Jvm.Free.SBG Jvm.Stand Jvm.LawKit Jvm.RoadKit Bundle Jvm.Pilot.@@N@@.Jvm.D
section OwnLdcW
variable {p : Program} {l : Launch} {e : Env} {R : Room} {s : State} {m : MethodId} {args : Array Value} {below : List Frame} {meth : Method} {c : Code} {T Z : State} {locs : List Loc} {cells slots : Nat} {a0 : Array Value} {EL : List (String × Nat)} {h : Heap} {vm vm0 : Vm} {own text : String} {index : Nat}
set_option maxHeartbeats 4000000 in
/-- ldc_w of a String constant: resolved already; open, its text interned; open, and the String is made now (the library has this of ldc alone) -/
theorem own_ldcN (X : Stand p l e R s m args below meth c T locs cells slots) (hx : p.tables.exec = Jvm.exec) (hown : s.vm.findClass own = some m.cls) (w : (Cond.stringLink own index text).before args s = true) (wS : ∀ d ∈ Bundle.stringAtoms, d.before args s = true)
    {g : JFrame} (hg : g.method = m) (hd : decode c.code g.pc = .ok (.ldc_w index, 3)) {n : Nat} (hn : 4 * text.toList.length ≤ n) (hb : n ≤ 536870912) (hc : cells + 2 ≤ R.cells) (hsl : slots + (n + 4) ≤ R.slots) :
    ∃ (a : Addr) (T2 : State), Stand p l e R (s.setVm T2.vm) m args below meth c T2 locs (cells + 2) (slots + (n + 4)) ∧ s.Since T2.vm T2.heap.size ∧ (∃ k, T2.vm.classes[m.cls]? = some k ∧ k.resolved[index]? = some (some (.string a))) ∧ (∀ x, x < T.heap.size → T2.heap[x]? = T.heap[x]?) ∧ T.Warmed39 T2.vm ∧
      (T2.vm.interned = T.vm.interned ∨ ∃ us : Array UInt16, T2.vm.interned = T.vm.interned.push (us, a) ∧ T.vm.interned.find? (fun p => p.1 == us) = none ∧ (us.all (· < 256) = true → SlIn 0 T.heap.size T2 a us)) ∧
      ∀ target, Steps p.tables e below (T2.setTop { g with pc := g.pc + 3, stack := .ref a :: g.stack }) target → Steps p.tables e below (T.setTop g) target := by
  subst hg
  obtain ⟨k, cf, i, us, hk, hcf, hp, hu, hnm, htx, hres⟩ := Cond.stringLink_spec hown w
  obtain ⟨k1, hk1, e1⟩ := X.warmed.alike.2.2 _ _ hk
  have hcf1 : k1.cf = some cf := by rw [e1]; exact hcf
  have pool : ∀ {j : Class}, j.cf = some cf → j.cf.bind (namesOf? ·.constantPool index) = some (.string text) ∧ j.cf.bind (·.constantPool[index]?) = some (.string i) ∧ j.cf.bind (·.constantPool.utf8? i) = some us := fun {j} q => by
    rw [q]; exact ⟨hnm, hp, by simp [ConstantPool.utf8?, hu]⟩
  have now : (k1.resolved[index]? = some none ∧ k.resolved[index]? = some none) ∨ ∃ a, k1.resolved[index]? = some (some (.string a)) := by
    rcases X.warmed.wide.entry hk hk1 index with q | ⟨-, r, q, hr | ⟨a, t, rfl, -⟩⟩
    · rcases hres with z | ⟨a, z⟩
      · exact Or.inl ⟨q.trans z, z⟩
      · exact Or.inr ⟨a, q.trans z⟩
    · exfalso
      cases r <;> simp [State.rightAt, hk, hcf, hnm] at hr
    · exact Or.inr ⟨a, q⟩
  rcases now with ⟨o1, o0⟩ | ⟨a, ha⟩
  · obtain ⟨a2, a3, a4⟩ := pool hcf
    obtain ⟨b2, b3, b4⟩ := pool hcf1
    cases hf : T.vm.interned.find? (fun p => p.1 == us) with
    | some pr =>
      obtain ⟨u1, a⟩ := pr
      obtain rfl : u1 = us := by simpa using Array.find?_some hf
      have hW := X.warmed.wide.notedString hk (Or.inl o0) a2 a3 a4 hf
      refine ⟨a, T.setVm (T.vm.noted g.method.cls index (.string a)), (X.mono (by omega) (by omega)).retabled hW, ⟨hW, State.Booked.step (T₂ := T.setVm (T.vm.noted g.method.cls index (.string a))) (X.warmed.no_new_pair _) X.same.2.1 ⟨Nat.le_refl _, Or.inl rfl⟩⟩, ⟨_, Vm.classes_note_self index (.string a) hk1, Class.resolved_note_self (.string a) o1⟩, fun _ _ => rfl, (State.Warmed39.refl T).notedString hk1 (Or.inl o1) b2 b3 b4 hf, Or.inl rfl, fun target q => ?_⟩
      jvm_step X.here [hx, hd, ldc_w.wp_string_found (e := e) (s := T) (f := g) X.here.top hk1 hcf1 hp hu o1 hf]
      exact q
    | none =>
      obtain ⟨Q, LQ, n4, fv4, fc4⟩ := StringT.of_atoms (args := args) wS
      obtain ⟨kS, kB, LW, ty⟩ := LQ.warmer X.warmed.alike
      have fs : T.fitsSlot = s.fitsSlot := (show T.fitsSlot = (s.setVm T.vm).fitsSlot from rfl).trans (State.fitsSlot_setVm X.warmed.alike)
      obtain ⟨B, eB⟩ : ∃ B, B = bytesOf Q.cB us := ⟨_, rfl⟩
      obtain ⟨D, eD⟩ : ∃ D, D = stringAt Q.cS kS Q.fv Q.fc us T.heap.size := ⟨_, rfl⟩
      have eV : withString T Q.cB Q.cS kS Q.fv Q.fc us = (T.pushCell B).pushCell D := by rw [withString_eq, eB, eD]
      obtain ⟨vm1, ev⟩ : ∃ v : Vm, v = { T.vm with interned := T.vm.interned.push (us, T.heap.size + 1) } := ⟨_, rfl⟩
      have hfind : vm1.interned.find? (fun p => p.1 == us) = some (us, T.heap.size + 1) := by
        rw [ev]; show (T.vm.interned.push (us, T.heap.size + 1)).find? _ = _
        rw [Array.find?_push, hf]; simp
      have hW : s.Warmed39 (vm1.noted g.method.cls index (.string (T.heap.size + 1))) := by
        rw [ev] at hfind ⊢; exact (X.warmed.wide.interns us (T.heap.size + 1)).notedString hk (Or.inl o0) a2 a3 a4 hfind
      have hW1 : T.Warmed39 (vm1.noted g.method.cls index (.string (T.heap.size + 1))) := by
        rw [ev] at hfind ⊢; exact ((State.Warmed39.refl T).interns us (T.heap.size + 1)).notedString hk1 (Or.inl o1) b2 b3 b4 hfind
      have sB : B.slots.size = (stringBytes us).size := by rw [eB, (Cell.writeAll_facts _ _).2.2]; simp [bytes0]
      have sD : D.slots.size = 4 := by rw [eD]; simp [string0, Cell.setSlot, ty, n4]
      have hbs : (stringBytes us).size ≤ n := Nat.le_trans (text_bytes_le htx) hn
      have hsz : ((T.pushCell B).pushCell D).heap.size = T.heap.size + 2 := by show ((T.heap.push B).push D).size = _; simp
      have hB : ((T.pushCell B).pushCell D).heap[T.heap.size]? = some (bytesOf Q.cB us) := by
        show ((T.heap.push B).push D)[T.heap.size]? = _
        rw [Array.getElem?_push, if_neg (by rw [Array.size_push]; omega), Array.getElem?_push, if_pos rfl, eB]
      have hD : ((T.pushCell B).pushCell D).heap[T.heap.size + 1]? = some (stringAt Q.cS kS Q.fv Q.fc us T.heap.size) := by
        show ((T.heap.push B).push D)[T.heap.size + 1]? = _
        rw [Array.getElem?_push, if_pos (by rw [Array.size_push]), eD]
      have hold : ∀ x, x < T.heap.size → ((T.pushCell B).pushCell D).heap[x]? = T.heap[x]? := fun x hlt => by
        show ((T.heap.push B).push D)[x]? = _
        rw [Array.getElem?_push, if_neg (by rw [Array.size_push]; omega), Array.getElem?_push, if_neg (by omega)]
      have hone : T.Interned1 (((T.pushCell B).pushCell D).setVm (vm1.noted g.method.cls index (.string (T.heap.size + 1)))) :=
        ⟨by show T.heap.size ≤ ((T.pushCell B).pushCell D).heap.size; omega, Or.inr ⟨us, T.heap.size + 1, by rw [ev]; rfl, by omega, by show T.heap.size + 1 < ((T.pushCell B).pushCell D).heap.size; omega⟩⟩
      refine ⟨T.heap.size + 1, ((T.pushCell B).pushCell D).setVm (vm1.noted g.method.cls index (.string (T.heap.size + 1))), (((X.pushed B).pushed D).mono (by omega) (by rw [sB, sD]; omega)).retabled hW, ⟨hW, State.Booked.step (X.warmed.no_new_pair _) X.same.2.1 hone⟩,
        ⟨_, Vm.classes_note_self (vm := vm1) index (.string (T.heap.size + 1)) (by rw [ev]; exact hk1), Class.resolved_note_self (.string (T.heap.size + 1)) o1⟩, hold, hW1, Or.inr ⟨us, by rw [ev]; rfl, hf, fun hl => made_sl (W := ((T.pushCell B).pushCell D).setVm (vm1.noted g.method.cls index (.string (T.heap.size + 1)))) wS LQ n4 ty hW.alike hB hD hl (by omega) 0⟩, fun target q => ?_⟩
      refine Steps.instr (c := _) (by simpa using X.here) ?_
      simp [jvm, wpRun, exec, X.here.top, hx, hd]
      refine ldc_w.wp_string_new (e := e) (s := T) (f := g) X.here.top hk1 hcf1 hp hu o1 hf LW.found LW.cls LW.initialized LW.ordinary LW.foundB LW.clsB LW.kindB LW.value LW.coder ?_ ?_ (X.cellsAbove hc) ?_
        (stringBytes_fit LW.clsB LW.kindB us) LW.valueSlot LW.coderSlot (by rw [fs]; exact fv4 _) (by rw [fs]; exact fc4 _) (fun d' acts' => ?_)
      · rw [Launch.admits_arrayLengthLimit X.admits]; omega
      · rw [Launch.admits_maxHeapBytes X.admits]; simp only [componentBytes]; omega
      · have := X.slotsAbove hsl
        show T.slotsUsed + (stringBytes us).size + kS.instanceTypes.size ≤ _
        rw [ty, n4]; omega
      · intro acts''
        rw [eV, ← ev]
        have t1 : ((T.pushCell B).pushCell D).topJava?.isSome := by first | exact X.here.top | simpa using X.here.top
        have t2 : (((T.pushCell B).pushCell D).setVm (vm1.noted g.method.cls index (.string (T.heap.size + 1)))).topJava?.isSome := by first | exact X.here.top | simpa using t1
        simp [jvm, afterInstr, t1, t2]
        rw [State.modifyTopJava_setTop]
        exact q
  · refine ⟨a, T, (X.mono (by omega) (by omega)).retabled X.warmed.wide, X.warmed.since _, ⟨k1, hk1, ha⟩, fun _ _ => rfl, State.Warmed39.refl T, Or.inl rfl, fun target q => ?_⟩
    jvm_step X.here [hx, hd, ldc_w.wp_string (e := e) (s := T) (f := g) X.here.top hk1 hcf1 hp ha]
    exact q
/-- a booked constant: what lies in the heap -/
theorem own_lit {a : Addr} {us : Array UInt16} (hal : Z.vm.Alike vm) (H : CHv Z EL vm h) (hmem : (own, index) ∈ EL) (hB : Booksv vm own index us a) (htx : utf16ToString? us = some text) {vs : List Value} {z : Int32} (ht : (∀ c ∈ text.toList, c.toNat < 256) ∧ text.toList.map (fun c => Value.int (Jvm.Lit.byteI c.toNat.toUInt16)) = vs) (hz : ¬ z < 0) (hl : z.toNatClampNeg = vs.length) :
    ∃ (b : Addr) (k : ClassId), Exa Z h a "java/lang/String" ∧ Fld Z h a "java/lang/String" "coder" "B" (.int 0) ∧ Fld Z h a "java/lang/String" "value" "[B" (.ref b) ∧ Arv Z h b k .byte z vs (.int 0) ∧ a < h.size ∧ b < h.size ∧ ∀ x, Safe Z EL vm h x → x ≠ a ∧ x ≠ b := by
  obtain ⟨q, rfl, F⟩ := SlB.of (H _ hmem us a hB)
  have hne : ∀ x, Safe Z EL vm h x → x ≠ q.sa ∧ x ≠ q.sd := fun x S => ⟨fun r => S ⟨_, hmem, us, _, hB, q, rfl, F, Or.inl r⟩, fun r => S ⟨_, hmem, us, _, hB, q, rfl, F, Or.inr r⟩⟩
  obtain ⟨cS, ⟨L1, gS, gC⟩, ⟨kS, g1, g2, g3⟩, gB, gs⟩ := F
  obtain ⟨h1, h2, h3, ⟨cv, kv, iv, hv, av⟩, ⟨co, ko, io, ho, ao⟩, nv, no, vv, vo, hA, ⟨st, kA, hkA, comp, hkd⟩, uA, -, -, -, hft⟩ := L1
  have gS : vm.findClass "java/lang/String" = some cS := gS
  have gB : vm.findClass "[B" = some q.SA.cls := gB
  have g1 : vm.classes[cS]? = some kS := g1
  have hkA : vm.classes[q.SA.cls]? = some kA := hkA
  obtain ⟨kv1, hv1⟩ := ff_back (U := Wst Z vm h) hal hv
  obtain ⟨ko1, ho1⟩ := ff_back (U := Wst Z vm h) hal ho
  have fZ : Z.vm.findClass "java/lang/String" = some q.sC.cls := by rw [← hal.findClass, gC]; exact gS
  obtain ⟨kz, hkz, -⟩ := Vm.findClass_spec fZ
  obtain ⟨kz1, hkz1, ez⟩ := hal.2.2 _ _ hkz
  rw [gC] at hkz1
  cases hkz1.symm.trans g1
  have fA : Z.vm.findClass "[B" = some q.SA.cls := by rw [← hal.findClass]; exact gB
  obtain ⟨kb, hkb, -⟩ := Vm.findClass_spec fA
  obtain ⟨kb1, hkb1, eb⟩ := hal.2.2 _ _ hkb
  cases hkb1.symm.trans hkA
  have hus : vs = us.toList.map fun u => Value.int (Jvm.Lit.byteI u) := by rw [← ht.2, Jvm.ClassFile.units_of_text htx ht.1, List.map_map]; rfl
  have hsl : q.SA.slots = us.map fun u => Value.int (Jvm.Lit.byteI u) := by rw [gs, SBG.stringBytes_lat (Jvm.ClassFile.lat_of_text htx ht.1)]; rfl
  have hsz : q.SA.slots.size = us.size := by rw [hsl, Array.size_map]
  have hvl : vs.length = us.size := by rw [hus]; simp
  have Hs : Has q.SA vs (.int 0) := fun j hj => by
    have : j < us.size := by omega
    rw [hsl, hus]; simp [this]
  exact ⟨q.sd, q.SA.cls, ⟨q.sC, kz, h1, fZ, hkz, h3, fun _ => by rw [g3, ez]⟩, ⟨q.sC, co, ko1, io, q.fSC, h1, ho1, no, h2, h3, by rw [← hal.assignable]; exact ao, vo⟩, ⟨q.sC, cv, kv1, iv, q.fSV, h1, hv1, nv, h2, h3, by rw [← hal.assignable]; exact av, vv⟩,
    ⟨q.SA, ⟨hA, ⟨st, kb, hkb, comp, by rw [eb] at hkd; exact hkd⟩, uA⟩, rfl, by rw [hsz, hl, hvl], hz, Hs, fun j hj => by have r := hft j hj; rw [SBG.getD_of (Hs j hj)] at r; exact r⟩, (Array.getElem?_eq_some_iff.mp h1).1, (Array.getElem?_eq_some_iff.mp hA).1, hne⟩
/-- ldc_w of a constant of EL, read: the library's ldcCH, of the wide form -/
theorem own_ldcWCH (X : Stand p l e R (s.setVm vm0) m args below meth c T locs cells slots) (hx : p.tables.exec = Jvm.exec) (hZ : Z.Warmed39 vm0) (hown : vm0.findClass own = some m.cls) (w : (Cond.stringLink own index text).before a0 Z = true) (wS : ∀ a ∈ Bundle.stringAtoms, a.before a0 Z = true)
    (eT : T.heap = h) {k0 : Nat} (hS : s.Since vm0 k0) (hk : k0 ≤ h.size) (hEL : EW Z a0 EL) (hmem : (own, index) ∈ EL) (H : CHv Z EL vm0 h)
    {vs : List Value} {z : Int32} (ht : (∀ c ∈ text.toList, c.toNat < 256) ∧ text.toList.map (fun c => Value.int (Jvm.Lit.byteI c.toNat.toUInt16)) = vs) (hz : ¬ z < 0) (hl : z.toNatClampNeg = vs.length)
    {g : JFrame} (hg : g.method = m) (hd : decode c.code g.pc = .ok (.ldc_w index, 3)) {n : Nat} (hn : 4 * text.toList.length ≤ n) (hb : n ≤ 536870912) (hc : cells + 2 ≤ R.cells) (hsl : slots + (n + 4) ≤ R.slots) :
    ∃ (a : Addr) (T' : State) (h' : Heap) (k1 : Nat) (b : Addr) (k : ClassId), Stand p l e R (s.setVm T'.vm) m args below meth c T' locs (cells + 2) (slots + (n + 4)) ∧ T'.heap = h' ∧ Ext h h' ∧ s.Since T'.vm k1 ∧ k1 ≤ h'.size ∧ Z.Warmed39 (s.setVm T'.vm).vm ∧ (s.setVm T'.vm).vm.findClass own = some m.cls ∧
      Exa Z h' a "java/lang/String" ∧ Fld Z h' a "java/lang/String" "coder" "B" (.int 0) ∧ Fld Z h' a "java/lang/String" "value" "[B" (.ref b) ∧ Arv Z h' b k .byte z vs (.int 0) ∧ a < h'.size ∧ b < h'.size ∧ CHr Z EL vm0 h T'.vm h' ∧ True ∧ (∀ x, Safe Z EL T'.vm h' x → x ≠ a ∧ x ≠ b) ∧
      ∀ target, Steps p.tables e below (T'.setTop { g with pc := g.pc + 3, stack := .ref a :: g.stack }) target → Steps p.tables e below (T.setTop g) target := by
  subst eT
  have wa : ∀ d ∈ Bundle.stringAtoms, d.before args (s.setVm vm0) = true := fun d hd => by
    have q := wS d hd
    simp only [Bundle.stringAtoms, List.mem_cons, List.not_mem_nil, or_false] at hd
    rcases hd with rfl | rfl | rfl | rfl | rfl | rfl | rfl
    · exact mv (s := s.setVm vm0) hZ q
    · exact mv (s := s.setVm vm0) hZ q
    · exact mvA (s := s.setVm vm0) hZ q
    · exact mv (s := s.setVm vm0) hZ q
    · exact mv (s := s.setVm vm0) hZ q
    · exact mv (s := s.setVm vm0) hZ q
    · exact mv (s := s.setVm vm0) hZ q
  obtain ⟨a, T', X', S', ⟨kk, hkk, hrr⟩, hold, hTW, hint, st⟩ := own_ldcN X hx (own := own) hown (mvS hZ w) wa hg hd hn hb hc hsl
  have E : Ext T.heap T'.heap := ext_of hold
  have hW : Z.Warmed39 T'.vm := State.Warmed39.trans (t := s.setVm vm0) hZ S'.1
  have hf : T'.vm.findClass own = some m.cls := by rw [S'.1.alike.findClass]; exact hown
  have A := CHv.at X hZ hEL H
  have B := CHv.later (vm := T.vm) (vm1 := T'.vm) (wtrans (s := s.setVm vm0) hZ X.warmed) (show (Wst Z T.vm T.heap).Warmed39 T'.vm from hTW) hEL E (hint.imp id fun ⟨us, q1, q2, q3⟩ => ⟨us, a, q1, q2, fun r => by
    obtain ⟨q, cS, rfl, r1, r2, r3, r4, r5⟩ := q3 r
    have F : SlB T' q us := ⟨cS, r1, r2, r3, r4⟩
    exact ⟨q, rfl, F.carry (V := Wst Z T'.vm T'.heap) (Vm.Alike.refl _) F.ha F.hd, r5.resolve_left fun y => absurd y.1 (Nat.not_lt_zero _)⟩⟩) A.1
  obtain ⟨kc, cf, i, us, g1, g2, g3, g4, -, htx, -⟩ := Cond.stringLink_spec (s := Wst Z T'.vm T'.heap) hf (show (Cond.stringLink own index text).before a0 (Wst Z T'.vm T'.heap) = true from mvS (s := { Z with heap := T'.heap }) hW w)
  have g1 : T'.vm.classes[m.cls]? = some kc := g1
  cases hkk.symm.trans g1
  obtain ⟨b, k, l1, l2, l3, l4, l5, l6, l7⟩ := own_lit hW.alike B.1 hmem ⟨m.cls, kk, cf, i, hf, hkk, g2, g3, g4, Or.inl hrr⟩ htx ht hz hl
  exact ⟨a, T', _, _, b, k, X', rfl, E, hS.trans S' (Nat.le_trans hk E.1), Nat.le_refl _, hW, hf, l1, l2, l3, l4, l5, l6, A.trans ⟨B.1, E.1, B.2⟩, trivial, l7, st⟩
end OwnLdcW
end Jvm.Pilot.@@N@@
namespace Jvm.Pilot.@@N@@
open Jvm Jvm.ClassFile Sem Op Lib Jvm.Free Jvm.Stand Jvm.LawKit Jvm.RoadKit Bundle Jvm.Pilot.@@N@@.Jvm.D
/-- what is asked of Throwable, and of the class rc of the object that is made -/
def own_exA (rc : String) : List Jvm.Cond := [.initialized tN, .superclass tN "java/lang/Object", .instanceMethod tFill, .codeSync tFill Jvm.LibCode.Throwable.Fill.code 1 (some (.object tN)), .instanceMethod tFill0, .native tFill0, .instanceMethod oInit, .code oInit ⟨#[0xb1]⟩ 1 none, .methodLink tN 1 oInit, .methodLink tN 27 tFill, .methodLink tN 202 tFill0, .fieldLink tN 7 tN "cause" "Ljava/lang/Throwable;", .fieldLink tN 17 tN "stackTrace" steD, .fieldLink tN 24 tN "suppressedExceptions" listD, .fieldLink tN 13 tN "UNASSIGNED_STACK" steD, .laysStatic tN "UNASSIGNED_STACK" steD, .fieldLink tN 20 tN "SUPPRESSED_SENTINEL" listD, .laysStatic tN "SUPPRESSED_SENTINEL" listD, .declares tFill, .selects rc tFill0 tFill0, .selects rc tFill tFill, .lays rc tN "cause" "Ljava/lang/Throwable;", .lays rc tN "stackTrace" steD, .lays rc tN "suppressedExceptions" listD, .lays rc tN "detailMessage" "Ljava/lang/String;", .fieldLink tN 198 tN "backtrace" "Ljava/lang/Object;", .lays rc tN "backtrace" "Ljava/lang/Object;", .arrayOver (.object "java/lang/Object"), .soleField tN "backtrace", .soleField tN "depth", .lays rc tN "depth" "I"]
theorem own_exOk (rc : String) : (own_exA rc).all xOk = true := rfl
theorem own_sig {ds : String} {sg : MethodDescriptor} {ps : List FieldType} (h : (parseMethodDescriptor ds).map (·.parameters) = some ps) (q : parseMethodDescriptor ds = some sg) : sg.parameters = ps := by
  rw [q] at h; exact Option.some.inj h
set_option maxHeartbeats 4000000 in
/-- Throwable's tables, as far as they are asked for -/
theorem own_thr {args : Array Value} {s : State} {pl : Platform} {rc : String} (ho : pl.frameOwnsMonitors = true) (hz : pl.finalization = false) (hp : pl.magicAccessors = ({} : Platform).magicAccessors) (w : ∀ d ∈ own_exA rc, d.before args s = true) :
    ∃ T : ThrowableC, T.Links pl s ∧ s.vm.findClass tN = some T.cT ∧ s.methodNamed? tFill = some T.fill ∧ s.methodNamed? tFill0 = some T.fill0 ∧ s.fieldFound? tN "cause" "Ljava/lang/Throwable;" = some (T.cT, T.kT, T.i7, T.fCause) ∧ s.fieldFound? tN "stackTrace" steD = some (T.cT, T.kT, T.i17, T.fStack) ∧
      s.fieldFound? tN "UNASSIGNED_STACK" steD = some (T.cT, T.kT, T.i13, T.fUnassigned) ∧ T.fCause.name = "cause" ∧ T.fStack.name = "stackTrace" ∧ T.fStack.type = .array (.object "java/lang/StackTraceElement") := by
  have q : ∀ d, d ∈ own_exA rc → d.holds args s none s [] = true := fun d hd => w d hd
  -- the class
  obtain ⟨⟨ct, j0⟩, md0, nm0, at0, nat0, cd0, lk0, sg0⟩ := Cond.native_spec (q (.native tFill0) (List.mem_of_getElem? (i := 5) rfl))
  have hct : s.vm.findClass tN = some ct := findClass_of_methodNamed nm0
  obtain ⟨kt, hkt, hnt⟩ := Vm.findClass_spec hct
  obtain ⟨_, k2, _, _, hk2, _, _, _, _, hni⟩ := Cond.superclass_spec hct (q (.superclass tN "java/lang/Object") (List.mem_of_getElem? (i := 1) rfl))
  cases hkt.symm.trans hk2
  -- its methods
  obtain ⟨jF, mdF, nmF, atF, inF, stF, abF, -, -⟩ := Cond.ownMethod (x := tFill) hct hkt (q (.instanceMethod tFill) (List.mem_of_getElem? (i := 2) rfl))
  obtain ⟨mdG, cdF, atG, codF, byF, mxF, rtF, lkF, -, sgF⟩ := Cond.codeSync_spec nmF (q (.codeSync tFill Jvm.LibCode.Throwable.Fill.code 1 (some (.object tN))) (List.mem_of_getElem? (i := 3) rfl))
  cases atF.symm.trans atG
  obtain ⟨j1, md1, nm1, at1, in1, st1, ab1, na1, de1⟩ := Cond.ownMethod (x := tFill0) hct hkt (q (.instanceMethod tFill0) (List.mem_of_getElem? (i := 4) rfl))
  cases nm0.symm.trans nm1
  cases at0.symm.trans at1
  obtain ⟨mo, mdO, nmO, atO, stO, abO⟩ := Cond.instanceMethod_spec (q (.instanceMethod oInit) (List.mem_of_getElem? (i := 6) rfl))
  obtain ⟨mdP, cdO, atP, codO, byO, mxO, -, lkO, -, sgO⟩ := Cond.code_spec nmO (q (.code oInit ⟨#[0xb1]⟩ 1 none) (List.mem_of_getElem? (i := 7) rfl))
  cases atO.symm.trans atP
  obtain ⟨kO, hkO, hnO⟩ := Vm.findClass_spec (findClass_of_methodNamed nmO)
  obtain ⟨naO, deO⟩ := name_of_methodNamed nmO atO
  -- what its pool names
  obtain ⟨u1, v1, cf, ml1, mr1, hcf, po1⟩ := Cond.linkedMethod hct hkt nmO (q (.methodLink tN 1 oInit) (List.mem_of_getElem? (i := 8) rfl)) pl hp
  obtain ⟨u27, v27, cf27, ml27, mr27, hcf27, po27⟩ := Cond.linkedMethod hct hkt nmF (q (.methodLink tN 27 tFill) (List.mem_of_getElem? (i := 9) rfl)) pl hp
  cases hcf.symm.trans hcf27
  obtain ⟨u202, v202, cf202, ml202, mr202, hcf202, po202⟩ := Cond.linkedMethod hct hkt nm0 (q (.methodLink tN 202 tFill0) (List.mem_of_getElem? (i := 10) rfl)) pl hp
  cases hcf.symm.trans hcf202
  obtain ⟨u7, i7, f7, l7, r7, a7, s7, n7, na7, -, fo7⟩ := Cond.ownField (t := .object tN) hct hkt (by decide +kernel) (q (.fieldLink tN 7 tN "cause" "Ljava/lang/Throwable;") (List.mem_of_getElem? (i := 11) rfl)) (q (.lays rc tN "cause" "Ljava/lang/Throwable;") (List.mem_of_getElem? (i := 21) rfl)) pl hp
  obtain ⟨u17, i17, f17, l17, r17, a17, s17, n17, na17, ty17, fo17⟩ := Cond.ownField (t := .array (.object "java/lang/StackTraceElement")) hct hkt (by decide +kernel) (q (.fieldLink tN 17 tN "stackTrace" steD) (List.mem_of_getElem? (i := 12) rfl)) (q (.lays rc tN "stackTrace" steD) (List.mem_of_getElem? (i := 22) rfl)) pl hp
  obtain ⟨u24, i24, f24, l24, r24, a24, s24, n24, na24, -, fo24⟩ := Cond.ownField (t := .object "java/util/List") hct hkt (by decide +kernel) (q (.fieldLink tN 24 tN "suppressedExceptions" listD) (List.mem_of_getElem? (i := 13) rfl)) (q (.lays rc tN "suppressedExceptions" listD) (List.mem_of_getElem? (i := 23) rfl)) pl hp
  obtain ⟨u13, i13, f13, aS, cellS, l13, r13, a13, s13, -, -, hsta, -, -, -, -, fo13⟩ := Cond.ownStatic (t := .array (.object "java/lang/StackTraceElement")) hct hkt (by decide +kernel) (q (.fieldLink tN 13 tN "UNASSIGNED_STACK" steD) (List.mem_of_getElem? (i := 14) rfl)) (q (.laysStatic tN "UNASSIGNED_STACK" steD) (List.mem_of_getElem? (i := 15) rfl)) pl hp
  obtain ⟨u20, i20, f20, _, _, l20, r20, a20, s20, -⟩ := Cond.ownStatic (t := .object "java/util/List") hct hkt (by decide +kernel) (q (.fieldLink tN 20 tN "SUPPRESSED_SENTINEL" listD) (List.mem_of_getElem? (i := 16) rfl)) (q (.laysStatic tN "SUPPRESSED_SENTINEL" listD) (List.mem_of_getElem? (i := 17) rfl)) pl hp
  -- two of the object's fields lie apart
  obtain ⟨cx, kx, _, _, _, _, hcx, hkx, -⟩ := Cond.lays_spec (q (.lays rc tN "stackTrace" steD) (List.mem_of_getElem? (i := 22) rfl))
  obtain ⟨-, d17, hd17, e17⟩ := Cond.laysAt hcx hkx fo17 (q (.lays rc tN "stackTrace" steD) (List.mem_of_getElem? (i := 22) rfl))
  obtain ⟨-, d24, hd24, e24⟩ := Cond.laysAt hcx hkx fo24 (q (.lays rc tN "suppressedExceptions" listD) (List.mem_of_getElem? (i := 23) rfl))
  have hap : f17.slot ≠ f24.slot := Cond.laysApart hd17 hd24 e17 e24 (by rw [na17, na24]; decide)
  have pF : mdF.sig.parameters = [] := own_sig (by decide +kernel) sgF
  have p0 : md0.sig.parameters = [.int] := own_sig (by decide +kernel) sg0
  have pO : mdO.sig.parameters = [] := own_sig (by decide +kernel) sgO
  refine ⟨{ cT := ct, kT := kt, cO := ct, aS := aS, fillIdx := jF, fill0Idx := j0, initSIdx := jF, obj := mo, kObj := kO, methFill := mdF, methFill0 := md0, methInitS := mdF, methObj := mdO, codeFill := cdF, codeInitS := cdF, codeObj := cdO, fBack := f7, fDepth := f7, fStack := f17, fCause := f7, fSupp := f24, fMsg := f7, fUnassigned := f13, fSentinel := f20, cfT := cf, ci1 := u1, n1 := v1, ci27 := u27, n27 := v27, ci202 := u202, n202 := v202, ci7 := u7, i7 := i7, ci13 := u13, i13 := i13, ci17 := u17, i17 := i17, ci20 := u20, i20 := i20, ci24 := u24, i24 := i24 }, ?_, hct, nmF, nm0, fo7, fo17, fo13, na7, na17, ty17⟩
  constructor <;> (try dsimp only) <;> first | assumption | (exact Vm.findClass_boot hct hkt) | (exact Cond.initialized_spec hct hkt (q (.initialized tN) (List.mem_of_getElem? (i := 0) rfl))) | (rw [deO]; exact lookupSpecial_of_named nmO atO stO) | (rw [pO]; rfl)
section OwnFill
variable {p : Program} {l : Launch} {e : Env} {R : Room} {s : State} {m : MethodId} {args : Array Value} {below : List Frame} {meth : Method} {c : Code} {T S0 Z : State} {locs : List Loc} {cells slots : Nat} {a0 : Array Value} {h : Heap}
set_option maxHeartbeats 8000000 in
/-- the call of fillInStackTrace() on an object of the class rc, in a constructor of Throwable -/
theorem own_fill (X : Stand p l e R s m args below meth c T locs cells slots) (hx : p.tables.exec = Jvm.exec) (hl : l.stackTraces = true) (hZ : Z.Warmed39 s.vm) (hown : s.vm.findClass tN = some m.cls) {rc : String} (hw : ∀ d ∈ own_exA rc, d.before a0 Z = true) (hT0 : ThS Z s.heap) (hTK : s.vm.MethodsKnown) (hBe : s.vm.FramesKnown below) (eT : T.heap = h)
    {a : Addr} {kk : Nat} (wi : (Cond.instantiable rc kk).before a0 Z = true) (E : Exa Z h a rc) (N : Unt h a) (B : Fld Z h a tN "backtrace" "Ljava/lang/Object;" .null) {u : Value} (hu : u.isRef = true) (US : Sta Z h tN "UNASSIGNED_STACK" steD u) (S : Fld Z h a tN "stackTrace" steD u) {cz mz : Value} (C : Fld Z h a tN "cause" "Ljava/lang/Throwable;" cz) (M : Fld Z h a tN "detailMessage" "Ljava/lang/String;" mz)
    {g : JFrame} (hg : g.method = m) (hsize : g.locals.size = c.maxLocals) {rest : List Value} (hs : g.stack = .ref a :: rest) (hd : decode c.code g.pc = .ok (.invokevirtual 27, 3)) (hf : 3 ≤ R.frames) {W : Nat} (hW : 2 * g.monitorRoom + (rest.map fun v => v.category).sum ≤ W) (hlo : W + 42 ≤ R.locals) (hc : cells + 1 ≤ R.cells) (hsl : slots + 2752 ≤ R.slots) (cm : Steps p.tables e below S0 (T.setTop g)) :
    ∃ (T' : State) (L : List Loc), Stand p l e R s m args below meth c T' (locs ++ L) (cells + 1) (slots + 2752) ∧ (∀ x ∈ L, x.base = a) ∧ Exa Z T'.heap a rc ∧ Fld Z T'.heap a tN "cause" "Ljava/lang/Throwable;" cz ∧ Fld Z T'.heap a tN "detailMessage" "Ljava/lang/String;" mz ∧
      Steps p.tables e below S0 (T'.setTop { g with pc := g.pc + 3, stack := .ref a :: rest }) := by
  have hal : Z.vm.Alike s.vm := hZ.alike
  have w : ∀ d ∈ own_exA rc, d.before args s = true := fun d hd => mvX hT0 hZ (List.all_eq_true.mp (own_exOk rc) d hd) (hw d hd)
  have q : ∀ d, d ∈ own_exA rc → d.holds args s none s [] = true := fun d hd => w d hd
  have htr : e.platform.stackTraces = true := by rw [X.admits.platform]; exact hl
  have hpl : e.platform.magicAccessors = ({} : Platform).magicAccessors := by rw [X.admits.platform]
  obtain ⟨Th, L, hcT, hnF, hn0, fC, fS, fU, nC, nS, tS⟩ := own_thr (args := args) (s := s) (rc := rc) (pl := e.platform) (by rw [X.admits.platform]) (by rw [X.admits.platform]) hpl w
  obtain ⟨cell, u1, u2, u3⟩ := N
  obtain ⟨cE, kE, e1, e2, e3, -, e5⟩ := E
  cases u1.symm.trans e1
  obtain ⟨c4, k4, i1, i2, i3, -⟩ := Cond.instantiable_spec wi
  cases e2.symm.trans i1
  cases e3.symm.trans i2
  obtain ⟨kX, x1, x2⟩ := hal.2.2 _ _ e3
  have hord : kX.kind = .ordinary := by rw [x2]; exact i3
  have hsz : cell.slots.size = kX.instanceTypes.size := by rw [x2]; exact e5 i3
  have hrc : s.vm.findClass rc = some cell.cls := by rw [hal.findClass]; exact e2
  have mvF : ∀ {n d : String} {cf : ClassId} {k : Class} {i : Nat} {f : Field}, Z.fieldFound? tN n d = some (cf, k, i, f) → ∃ k', s.fieldFound? tN n d = some (cf, k', i, f) := fun {n d cf k i f} hq => by
    obtain ⟨k', q1, -⟩ := State.fieldFound?_setVm (s := Z) hal hq
    exact ⟨k', q1⟩
  obtain ⟨cS, cfS, kS, iS, gS, s1, s2, -, -, -, -, s7⟩ := S
  cases u1.symm.trans s1
  obtain ⟨kS', s3⟩ := mvF s2
  cases fS.symm.trans s3
  obtain ⟨u198, i198, fB, l198, r198, a198, sB, -, nB, tB, ffB⟩ := Cond.ownField (t := .object "java/lang/Object") hcT L.cls (by decide +kernel) (q (.fieldLink tN 198 tN "backtrace" "Ljava/lang/Object;") (List.mem_of_getElem? (i := 25) rfl)) (q (.lays rc tN "backtrace" "Ljava/lang/Object;") (List.mem_of_getElem? (i := 26) rfl)) e.platform hpl
  obtain ⟨cB, cfB, kB, iB, gB, b1, b2, -, -, -, -, b7⟩ := B
  cases u1.symm.trans b1
  obtain ⟨kB', b3⟩ := mvF b2
  cases ffB.symm.trans b3
  obtain ⟨cC, cfC, kC, iC, gC, c1, c2, c3, c5, c6, c7, c8⟩ := C
  cases u1.symm.trans c1
  obtain ⟨kC', c9⟩ := mvF c2
  cases fC.symm.trans c9
  obtain ⟨cM, cfM, kM, iM, fM, m1, m2, m4, m5, m6, m7, m8⟩ := M
  cases u1.symm.trans m1
  obtain ⟨kM', m3⟩ := mvF m2
  obtain ⟨_, _, cD, kD, iD, fD, -, -, ffD, stD, -⟩ := Cond.lays_spec (q (.lays rc tN "depth" "I") (List.mem_of_getElem? (i := 30) rfl))
  cases Option.some.inj ((Cond.lays_declared (q (.lays rc tN "depth" "I") (List.mem_of_getElem? (i := 30) rfl)) ffD).symm.trans hcT)
  obtain ⟨hkD, atD⟩ := State.fieldFound?_spec ffD
  cases Option.some.inj (hkD.symm.trans L.cls)
  obtain ⟨nD, tD⟩ := State.fieldFound?_type ffD (t := .int) (by decide +kernel)
  have hfb := Cond.soleField_find hcT L.cls (q (.soleField tN "backtrace") (List.mem_of_getElem? (i := 28) rfl)) a198 nB sB
  have hfd := Cond.soleField_find hcT L.cls (q (.soleField tN "depth") (List.mem_of_getElem? (i := 29) rfl)) atD nD stD
  obtain ⟨comp, cO, kO, -, -, hkO, hkindO, hO⟩ := Cond.arrayOver_spec (q (.arrayOver (.object "java/lang/Object")) (List.mem_of_getElem? (i := 27) rfl))
  obtain ⟨tyS, dS, hdS, hnS⟩ := Cond.laysAt hrc x1 fS (q (.lays rc tN "stackTrace" steD) (List.mem_of_getElem? (i := 22) rfl))
  obtain ⟨tyB, dB, hdB, hnB⟩ := Cond.laysAt hrc x1 ffB (q (.lays rc tN "backtrace" "Ljava/lang/Object;") (List.mem_of_getElem? (i := 26) rfl))
  obtain ⟨tyD, dD, hdD, hnD⟩ := Cond.laysAt hrc x1 ffD (q (.lays rc tN "depth" "I") (List.mem_of_getElem? (i := 30) rfl))
  obtain ⟨-, dC, hdC, hnC⟩ := Cond.laysAt hrc x1 fC (q (.lays rc tN "cause" "Ljava/lang/Throwable;") (List.mem_of_getElem? (i := 21) rfl))
  obtain ⟨-, dM, hdM, hnM⟩ := Cond.laysAt hrc x1 m3 (q (.lays rc tN "detailMessage" "Ljava/lang/String;") (List.mem_of_getElem? (i := 24) rfl))
  have nM : fM.name = "detailMessage" := (State.fieldFound?_type m3 (t := .object "java/lang/String") (by decide +kernel)).1
  have CB := Cond.laysApart hdC hdB hnC hnB (by rw [nC, nB]; decide)
  have CD := Cond.laysApart hdC hdD hnC hnD (by rw [nC, nD]; decide)
  have CS := Cond.laysApart hdC hdS hnC hnS (by rw [nC, nS]; decide)
  have MB := Cond.laysApart hdM hdB hnM hnB (by rw [nM, nB]; decide)
  have MD := Cond.laysApart hdM hdD hnM hnD (by rw [nM, nD]; decide)
  have MS := Cond.laysApart hdM hdS hnM hnS (by rw [nM, nS]; decide)
  have tk : ∀ {f : Field} {v : Value}, kX.instanceTypes[f.slot]? = some f.type → fits f.type v = true → Jvm.Takes s cell f v := fun {f v} h1 h2 => by
    obtain ⟨q1, q2⟩ := Takes.of_laid (v := v) x1 hord h1 h2
    exact ⟨by rw [hsz]; simpa using q1, by rw [u2]; exact q2⟩
  obtain ⟨cfU, iU, kU, gU, st, cellS, v1, v2, -, v4, v5, v6, v7⟩ := US
  obtain ⟨kU', v3, ek⟩ := State.fieldFound?_setVm (s := Z) hal v1
  have v3' : s.fieldFound? tN "UNASSIGNED_STACK" steD = _ := v3
  cases fU.symm.trans v3'
  have v8 : Th.kT.statics = some st := by rw [ek]; exact v4
  cases v8.symm.trans L.statics
  have hneS : Th.aS ≠ a := fun z => by
    rw [z] at v5; cases v5.symm.trans u1; rw [u2] at v6; cases v6
  have hsel0 : selectMethod e.platform s.vm cell.cls Th.fill0 = .method Th.fill0 := by
    obtain ⟨c2', r2, m2', q1, q2, q3, q4, -⟩ := Cond.selects_spec (q (.selects rc tFill0 tFill0) (List.mem_of_getElem? (i := 19) rfl))
    cases q1.symm.trans hrc
    cases q2.symm.trans (State.methodFound?_of_named hn0 (by decide))
    cases q3.symm.trans hn0
    rw [Launch.admits_selectMethod X.admits]; exact q4
  have sel := (w (.selects rc tFill tFill) (List.mem_of_getElem? (i := 20) rfl))
  obtain ⟨v, vm1, ⟨T', L', k', n'⟩, hW1, X', ⟨hv, C', n, hn, hC', y1, y2, y3, y4, hL, hce, hsn⟩, st'⟩ := X.virtualBack hx (own := tN) (C := rc) (index := 27) (y := tFill) (z := tFill) hown (w (.methodLink tN 27 tFill) (List.mem_of_getElem? (i := 9) rfl)) (w (.declares tFill) (List.mem_of_getElem? (i := 18) rfl)) (notFace_of_selects sel) sel (w (.instanceMethod tFill) (List.mem_of_getElem? (i := 2) rfl)) (by decide)
    (Jvm.Free.Exc.fillPaysAny (l := l) (W := W) hx htr Th L hnF (u0 := ⟨u, hu⟩) (self := a) (cell := cell) (cellS := cellS) (fun _ => by rw [u2]; simp) (by rw [u2]; simp) (by rw [u3]) (by rw [u3]) s7 hsel0 hneS (fun z => by rw [z] at v6; cases v6) v7 (tk tyS (by rw [tS]; exact fits_refV_array _ ⟨u, hu⟩))
      ⟨{ ci198 := u198, i198 := i198, fBack := fB }, ⟨l198, r198, a198, sB⟩, b7⟩ hTK hBe hcT hO hkO hkindO hfb hfd (fun x => tk tyB (by rw [tB]; rfl)) (fun x => tk tyD (by rw [tD]; rfl)) (by omega) hlo)
    (b := a) (cB := cell.cls) hrc ⟨cell, by rw [eT]; exact u1, rfl, by rw [u2]; rfl⟩ hg hsize cm (argsL := []) (rest := rest)
    (fun sig hh => by rw [show parseMethodDescriptor tFill.desc = some ⟨[], some (.object tN)⟩ from by decide +kernel] at hh; rw [← Option.some.inj hh]; rfl) hs hW hd
    (fun vmx hWx => ⟨rfl, hc, hsl, by show T.heap[a]? = _; rw [eT]; exact u1, by show T.heap[_]? = _; rw [eT]; exact v5⟩)
  dsimp only [Pt.U, Pt.locs, Pt.cells, Pt.slots] at X' hC' hL hce hsn st'
  subst hv hL hce hsn
  refine ⟨T', [⟨a, fB.slot⟩, ⟨a, fD.slot⟩, ⟨a, Th.fStack.slot⟩], X'.more (Nat.le_refl _) (Nat.add_le_add_left hn _), fun x hx => ?_, ⟨C', kE, hC', by rw [y1]; exact e2, by rw [y1]; exact e3, by rw [y2, u2]; rfl, fun z => by rw [y3]; exact e5 z⟩,
    ⟨C', _, kC, _, Th.fCause, hC', c2, c3, by rw [y2]; exact c5, by rw [y2]; exact c6, by rw [y1]; exact c7, by rw [y4 _ CB CD CS]; exact c8⟩, ⟨C', _, kM, _, fM, hC', m2, m4, by rw [y2]; exact m5, by rw [y2]; exact m6, by rw [y1]; exact m7, by rw [y4 _ MB MD MS]; exact m8⟩, st'⟩
  simp only [List.mem_cons, List.not_mem_nil, or_false] at hx
  rcases hx with rfl | rfl | rfl <;> rfl
end OwnFill
end Jvm.Pilot.@@N@@
namespace Jvm.Pilot.@@N@@
open Jvm Jvm.ClassFile Sem Op Lib Jvm.Free Jvm.Stand Jvm.LawKit Jvm.RoadKit Bundle Jvm.Pilot.@@N@@.Jvm.D
section OwnUp
variable {p : Program} {l : Launch} {e : Env} {R : Room} {s : State} {m : MethodId} {args : Array Value} {below : List Frame} {meth : Method} {c : Code} {T S0 Z : State} {locs : List Loc} {cells slots : Nat} {a0 : Array Value} {h h0 : Heap} {own C : String} {index count : Nat} {y z : MethodName} {mx : Nat} {W kc ks : Nat} {Q : Option Value → Heap → List Loc → Prop} {g : JFrame} {argsL rest : List Value} {b : Addr}
theorem own_nrR {v : Value} {t : FieldType} (h : v.isRef = true) : narrow t v = v := narrow_refV t ⟨v, h⟩
theorem own_ftR {v : Value} {t : FieldType} (h : v.isRef = true) (q : t.isReference = true) : fits t v = true := by
  cases t with
  | object n => exact fits_refV_object n ⟨v, h⟩
  | array t => exact fits_refV_array t ⟨v, h⟩
  | _ => cases q
/-- a call that names a method of a superclass by its subclass -/
theorem own_virtU (X : Stand p l e R s m args below meth c T locs cells slots) (hx : p.tables.exec = Jvm.exec) (hml : c.maxLocals = mx) (hZ : Z.Warmed39 s.vm) (hown : s.vm.findClass own = some m.cls) {ow : String}
    (w1 : (Cond.methodLink own index y).before a0 Z = true) (w2 : (Cond.sameMethod y.cls ow y.name y.desc).before a0 Z = true) (w3 : (Cond.declares ⟨ow, y.name, y.desc⟩).before a0 Z = true) (w4 : (Cond.selects C y z).before a0 Z = true) (w5 : (Cond.instanceMethod z).before a0 Z = true) (hy : ow ≠ "java/lang/invoke/MethodHandle" ∧ ow ≠ "java/lang/invoke/VarHandle")
    (hK : own_Pay l R p e below s args z 3 W (.ref b :: argsL).toArray h kc ks Q) (E : Exa Z h b C) (cm : Steps p.tables e below S0 (T.setTop g)) (hlen : ∀ sig, parseMethodDescriptor y.desc = some sig → argsL.length = sig.parameters.length) (hst : g.stack = argsL.reverse ++ .ref b :: rest) (hd : decode c.code g.pc = .ok (.invokevirtual index, 3)) (eT : T.heap = h) (hc : cells + kc ≤ R.cells := by decide) (hs : slots + ks ≤ R.slots := by decide) (hg : g.method = m := by rfl) (hsz : g.locals.size = mx := by rfl) (hW : 2 * g.monitorRoom + (rest.map fun v => v.category).sum ≤ W := by show 2 * 0 + _ ≤ _; exact Nat.le_of_eq rfl) :
    ∃ (v : Option Value) (T' : State) (L : List Loc), Stand p l e R s m args below meth c T' (locs ++ L) (cells + kc) (slots + ks) ∧ Q v T'.heap L ∧ Steps p.tables e below S0 (T'.setTop { g with pc := g.pc + 3, stack := v.toList ++ rest }) := by
  obtain ⟨cq, kq, qa, qb, qc⟩ := isOf hZ eT E
  obtain ⟨v, _, ⟨T', L', k', n'⟩, -, X', ⟨L, hQ, l1, l2, l3⟩, st⟩ := X.virtualBackUp hx (x := y) (y := z) (owner := ow) hown (mvT hZ w1) (mvT hZ w2) (mvT hZ w3) hy (mvT hZ w4) (mvT hZ w5) hK qa qc hg (by rw [hml]; exact hsz) cm (argsL := argsL) (rest := rest) hlen hst hW hd (fun _ _ => ⟨rfl, eT, hc, hs⟩)
  dsimp only [Pt.U, Pt.locs, Pt.cells, Pt.slots] at X' l1 l2 l3 st hQ
  subst l1 l2 l3
  exact ⟨v, T', L, X', hQ, st⟩
/-- getCause() of an exception that is its own cause (none was given) -/
theorem own_gc (X : Stand p l e R s m args below meth c T locs cells slots) (hx : p.tables.exec = Jvm.exec) (hml : c.maxLocals = mx) (hZ : Z.Warmed39 s.vm) (hown : s.vm.findClass own = some m.cls)
    (w1 : (Cond.methodLink own index ⟨C, "getCause", "()Ljava/lang/Throwable;"⟩).before a0 Z = true) (w2 : (Cond.sameMethod C tN "getCause" "()Ljava/lang/Throwable;").before a0 Z = true) (w3 : (Cond.declares Jvm.RoadKit.gcN).before a0 Z = true) (w4 : (Cond.selects C ⟨C, "getCause", "()Ljava/lang/Throwable;"⟩ Jvm.RoadKit.gcN).before a0 Z = true) (w5 : (Cond.instanceMethod Jvm.RoadKit.gcN).before a0 Z = true)
    (wc : (Cond.codeSync Jvm.RoadKit.gcN Jvm.RoadKit.gcB 1 (some (.object tN))).before a0 Z = true) (wz : (Cond.initialized tN).before a0 Z = true) (wf : (Cond.fieldLink tN 7 tN "cause" "Ljava/lang/Throwable;").before a0 Z = true)
    (eT : T.heap = h) (E : Exa Z h b C) (N : Unt h b) (F : Fld Z h b tN "cause" "Ljava/lang/Throwable;" (.ref b)) (cm : Steps p.tables e below S0 (T.setTop g)) (hst : g.stack = .ref b :: rest) (hd : decode c.code g.pc = .ok (.invokevirtual index, 3)) (hc : cells ≤ R.cells) (hs : slots ≤ R.slots) (hf : 1 ≤ R.frames) (hlo : W + 12 ≤ R.locals) (hg : g.method = m := by rfl) (hsz : g.locals.size = mx := by rfl) (hW : 2 * g.monitorRoom + (rest.map fun v => v.category).sum ≤ W := by show 2 * 0 + _ ≤ _; exact Nat.le_of_eq rfl) :
    ∃ T' : State, Stand p l e R s m args below meth c T' locs cells slots ∧ T'.heap = h ∧ Steps p.tables e below S0 (T'.setTop { g with pc := g.pc + 3, stack := .null :: rest }) := by
  obtain ⟨cq, kq, qa, qb, qc⟩ := isOf hZ eT E
  obtain ⟨v, _, ⟨T', L', k', n'⟩, -, X', ⟨hv, hh, l1, l2, l3⟩, st⟩ := X.virtualBackUp hx (x := ⟨C, "getCause", "()Ljava/lang/Throwable;"⟩) (y := Jvm.RoadKit.gcN) (owner := tN) hown (mvT hZ w1) (mvT hZ w2) (mvT hZ w3) (by decide) (mvT hZ w4) (mvT hZ w5)
    (gcBackPure (rm := { frames := 0, cells := 0, slots := 0, locals := 0 }) (W := W) hZ wc w5 wz wf N F rfl hf hlo) qa qc hg (by rw [hml]; exact hsz) cm (argsL := []) (rest := rest)
    (fun sig hh => by rw [show parseMethodDescriptor "()Ljava/lang/Throwable;" = some ⟨[], some (.object tN)⟩ from by decide +kernel] at hh; rw [← Option.some.inj hh]; rfl) hst hW hd (fun _ _ => ⟨rfl, eT, hc, hs⟩)
  dsimp only [Pt.U, Pt.locs, Pt.cells, Pt.slots] at X' hh l1 l2 l3 st
  rw [gcv_self] at hv
  subst hv l1 l2 l3
  exact ⟨T', X', hh, st⟩
/-- an array is no object of a class -/
theorem own_neAE {t a : Addr} {kb : ClassId} {ty : FieldType} {n : Int32} {vs : List Value} {d : Value} {k : Nat} (A : Arv Z h t kb ty n vs d) (E : Exa Z h a C) (wi : (Cond.instantiable C k).before a0 Z = true) : t ≠ a := fun q => by
  subst q
  obtain ⟨cl, ⟨A1, ⟨-, kA, hkA, comp, hkind⟩, -⟩, -⟩ := A
  obtain ⟨c1, k1, e1, e2, e3, -⟩ := E
  cases A1.symm.trans e1
  cases hkA.symm.trans e3
  obtain ⟨c2, k2, i1, i2, i3, -⟩ := Cond.instantiable_spec wi
  cases e2.symm.trans i1
  cases hkA.symm.trans i2
  rw [hkind] at i3; cases i3
theorem own_sfE {vm : Vm} {EL : List (String × Nat)} {t t2 : Addr} (q : t2 = t ∨ h.size ≤ t2) (S : Safe Z EL vm h t) : Safe Z EL vm h t2 := q.elim (fun e => e ▸ S) Safe.new
theorem own_hl (h : l.flags = Jvm.pinnedFlags) : l.stackTraces = true := by
  show (!l.flags.contains noTraceFlag) = true
  rw [h]; decide
theorem own_tk (h : tablesKnown s = true) : s.vm.MethodsKnown := fun mi x hm => by
  cases hk : s.vm.classes[mi.cls]? with
  | none => simp [Vm.method?, hk] at hm
  | some k =>
    refine ⟨k, hk, fun cf hcf => ?_⟩
    have h1 : k.methods[mi.idx]? = some x := by simpa [Vm.method?, hk] using hm
    have h2 := Array.all_eq_true_iff_forall_mem.mp (show s.vm.classes.all _ = true from h) k (Array.mem_of_getElem? hk)
    simp only [hcf] at h2
    have h3 : k.methods.size = cf.methods.size := by simpa using h2
    have h4 := (Array.getElem?_eq_some_iff.mp h1).1
    rw [Array.getElem?_eq_getElem (by omega)]; rfl
theorem own_mk {vm : Vm} {mi : MethodId} (h : methodKnown vm mi = true) : vm.knowsMethod mi := by
  have h' : (match vm.classes[mi.cls]? with | some k => (match k.cf with | some cf => (cf.methods[mi.idx]?).isSome | none => true) | none => false) = true := h
  cases hk : vm.classes[mi.cls]? with
  | none => rw [hk] at h'; cases h'
  | some k =>
    refine ⟨k, hk, fun cf hcf => ?_⟩
    rw [hk] at h'
    simp only [hcf] at h'
    exact h'
theorem own_fk {mi : MethodId} {as : Array Value} (h : framesKnown s = true) (hf : s.frames = Frame.invoking mi as :: below) : s.vm.FramesKnown below := fun y hy m' hm' => by
  have h1 := List.all_eq_true.mp (show s.frames.all _ = true from h) y (by rw [hf]; exact List.mem_cons_of_mem _ hy)
  cases y with
  | java g => cases hm'; exact own_mk h1
  | native n => cases hm'; exact own_mk h1
  | _ => cases hm'
end OwnUp
end Jvm.Pilot.@@N@@
/- laws to paste: Road.backV, Road.lenW, Road.chN, Road.codOf (cut by pick.py; bodies as the Statement names them) -/
namespace Jvm.Pilot.@@N@@
namespace StrChars
open Jvm Sem ClassFile Op Lib Jvm.Stand Jvm.Free.XT Jvm.Free.ALB Jvm.Free.JM Jvm.Free
open Jvm.Lib.Cold (StaticIs)
/-- a char array whose places are chars -/
def Ch (a : Addr) (A : Cell) (U : State) : Prop := Arr .char a A U ∧ Typed .char A
theorem Ch.mv {a : Addr} {A : Cell} {U U' : State} (h : Ch a A U) (hal : U.vm.Alike U'.vm) (hh : U'.heap = U.heap) : Ch a A U' := ⟨h.1.mv hal hh, h.2⟩
theorem Ch.keep {a : Addr} {A : Cell} {U U' : State} (h : Ch a A U) (hal : U.vm.Alike U'.vm) (hk : U'.heap[a]? = some A) : Ch a A U' := ⟨h.1.keep hal hk, h.2⟩
/-- what place i of a char[]'s cell holds -/
def cv (A : Cell) (i : Nat) : Int32 := match A.slots[i]? with | some (.int x) => x | _ => 0
theorem Ch.get {a : Addr} {A : Cell} {U : State} (h : Ch a A U) {i : Nat} (hi : i < A.slots.size) : A.slots[i]? = some (.int (cv A i)) := by
  have e := Array.getElem?_eq_getElem hi
  have f := h.2 i _ e
  unfold cv; rw [e]
  generalize A.slots[i] = v at f
  cases v <;> simp [fits] at f ⊢
/-- the byte that i2b leaves of a char -/
def lo8 (x : Int32) : Int32 := x.toInt8.toInt32
theorem fits_lo8 (y : Int32) : fits .byte (.int (lo8 y)) = true := by
  have h1 := y.toInt8.le_toInt
  have h2 := y.toInt8.toInt_lt
  simp only [lo8, fits, Bool.and_eq_true, decide_eq_true_eq, Int32.le_iff_toInt_le, Int8.toInt_toInt32, show (-128 : Int32).toInt = -128 from by decide, show (127 : Int32).toInt = 127 from by decide]
  omega
/-- A' is A but that each place j of lo .. hi - 1 holds f j -/
def Laid (A A' : Cell) (lo hi : Nat) (f : Nat → Value) : Prop := A'.cls = A.cls ∧ A'.vm = A.vm ∧ A'.slots.size = A.slots.size ∧ ∀ i, A'.slots[i]? = if lo ≤ i ∧ i < hi then some (f i) else A.slots[i]?
theorem Laid.zero (A : Cell) (lo : Nat) (f : Nat → Value) : Laid A A lo (lo + 0) f := ⟨rfl, rfl, rfl, fun i => by rw [if_neg (by omega)]⟩
theorem Laid.step {A Ak : Cell} {lo k : Nat} {f : Nat → Value} {v : Value} (h : Laid A Ak lo k f) (hlo : lo ≤ k) (hk : k < Ak.slots.size) (hv : v = f k) : Laid A (Ak.setSlot k v) lo (k + 1) f := by
  refine ⟨h.1, h.2.1, by simpa [Cell.setSlot] using h.2.2.1, fun i => ?_⟩
  by_cases e : k = i
  · subst e; rw [Cell.slots_setSlot_self v hk, if_pos (by omega), hv]
  · rw [Cell.slots_setSlot_ne v e, h.2.2.2 i]
    by_cases q : lo ≤ i ∧ i < k
    · rw [if_pos q, if_pos (by omega)]
    · rw [if_neg q, if_neg (by omega)]
def U16 : String := "java/lang/StringUTF16"
namespace Cmp5
def yN : MethodName := ⟨"java/lang/StringUTF16", "compress", "([CI[BII)I"⟩
abbrev yB : ByteArray := jdk_52_method_21_code
theorem d0 : decode yB 0 = .ok (.iconst 0, 1) := by decide +kernel
theorem d1 : decode yB 1 = .ok (.istore 5, 2) := by decide +kernel
theorem d3 : decode yB 3 = .ok (.iload 5, 2) := by decide +kernel
theorem d5 : decode yB 5 = .ok (.iload 4, 2) := by decide +kernel
theorem d7 : decode yB 7 = .ok (.if_icmp (.ge) 37, 3) := by decide +kernel
theorem d10 : decode yB 10 = .ok (.aload_n 0, 1) := by decide +kernel
theorem d11 : decode yB 11 = .ok (.iload_n 1, 1) := by decide +kernel
theorem d12 : decode yB 12 = .ok (.caload, 1) := by decide +kernel
theorem d13 : decode yB 13 = .ok (.istore 6, 2) := by decide +kernel
theorem d15 : decode yB 15 = .ok (.iload 6, 2) := by decide +kernel
theorem d17 : decode yB 17 = .ok (.sipush 255, 3) := by decide +kernel
theorem d20 : decode yB 20 = .ok (.if_icmp (.le) 6, 3) := by decide +kernel
theorem d26 : decode yB 26 = .ok (.aload_n 2, 1) := by decide +kernel
theorem d27 : decode yB 27 = .ok (.iload_n 3, 1) := by decide +kernel
theorem d28 : decode yB 28 = .ok (.iload 6, 2) := by decide +kernel
theorem d30 : decode yB 30 = .ok (.i2b, 1) := by decide +kernel
theorem d31 : decode yB 31 = .ok (.bastore, 1) := by decide +kernel
theorem d32 : decode yB 32 = .ok (.iinc 1 1, 3) := by decide +kernel
theorem d35 : decode yB 35 = .ok (.iinc 3 1, 3) := by decide +kernel
theorem d38 : decode yB 38 = .ok (.iinc 5 1, 3) := by decide +kernel
theorem d41 : decode yB 41 = .ok (.goto (-38), 3) := by decide +kernel
theorem d44 : decode yB 44 = .ok (.iload 4, 2) := by decide +kernel
theorem d46 : decode yB 46 = .ok (.ireturn, 1) := by decide +kernel
def site : List Cond := []
def tab : Cond := tabOf yN yB 7 (some .int) site
def P (b : Addr) (A : Cell) (d : Addr) (B : Cell) (o q len : Nat) (args : Array Value) (s : State) : Prop := args = #[.ref b, .int (Int32.ofNat o), .ref d, .int (Int32.ofNat q), .int (Int32.ofNat len)] ∧ Ch b A s ∧ Arr .byte d B s ∧ b ≠ d ∧ o + len ≤ A.slots.size ∧ q + len ≤ B.slots.size ∧ ∀ i, i < len → ¬ 255 < cv A (o + i)
def E (b : Addr) (A : Cell) (d : Addr) (B : Cell) (o q len : Nat) (r : Option Value) (s u : State) : Prop := r = some (.int (Int32.ofNat len)) ∧ ∃ B', Put d B' s u ∧ Laid B B' q (q + len) (fun j => Value.int (lo8 (cv A (o + (j - q)))))
/-- no char of the range above 255: len; the places written hold each char's low byte -/
theorem law (l : Launch) (b : Addr) (A : Cell) (d : Addr) (B : Cell) (o q len : Nat) : Law l yN 5 5 0 0 yB 7 (some .int) site (P b A d B o q len) (E b A d B o q len) (copyLocs d q len) 0 0 := by
  refine Law.of_walk (plainFor_of_name (by decide +kernel)) (by decide +kernel) (by decide +kernel) (by decide) (fun _ _ h => by rw [h.1]; rfl) (fun _ U U' hal hh h => ⟨h.1, h.2.1.mv hal hh, h.2.2.1.mv hal hh, h.2.2.2⟩) (fun r U U' V V' h1 hal h2 h => ⟨h.1, h.2.elim fun B' q => ⟨B', q.1.mv h1 h2, q.2⟩⟩) ?_
  intro p e s m args below meth c s₁ X0 hexec hbytes hml hret hlk hnm hown hh0 W hP
  obtain ⟨rfl, hA, hB, hne, l1, l2, hp⟩ := hP
  have c1 : Steps p.tables e below (s₁.setTop (entryFrame m #[.ref b, .int (Int32.ofNat o), .ref d, .int (Int32.ofNat q), .int (Int32.ofNat len)] 7)) (s₁.setTop (mkF m 0 #[.val (.ref b), .val (.int (Int32.ofNat o)), .val (.ref d), .val (.int (Int32.ofNat q)), .val (.int (Int32.ofNat len)), .unset, .unset] [])) := entry rfl
  have hA0 := hA.1.mv X0.warmed.alike hh0
  have hB0 := hB.mv X0.warmed.alike hh0
  have a31 := hA.1.2.2.2
  have c2 : Steps p.tables e below (s₁.setTop (entryFrame m #[.ref b, .int (Int32.ofNat o), .ref d, .int (Int32.ofNat q), .int (Int32.ofNat len)] 7)) (s₁.setTop (mkF m 3 #[.val (.ref b), .val (.int (Int32.ofNat o)), .val (.ref d), .val (.int (Int32.ofNat q)), .val (.int (Int32.ofNat len)), .val (.int 0), .unset] [])) := c1.trans (by
    refine iconstV X0.here hexec rfl 0 (hb hbytes d0) (by decide) ?_
    refine XS.istore X0.here hexec rfl (hb hbytes d1) rfl rfl ?_
    exact Steps.refl _)
  have loop : ∀ (r i : Nat), i + r = len → ∀ (z : Slot), (z = .unset ∨ ∃ w, z = .val w ∧ w.category = 1) → ∀ (Tl : State) (Bk : Cell), Stand p l e { frames := 0, locals := 0, cells := 0, slots := 0 } s m #[.ref b, .int (Int32.ofNat o), .ref d, .int (Int32.ofNat q), .int (Int32.ofNat len)] below meth c Tl ([] ++ copyLocs d q i) 0 0 → Put d Bk s₁ Tl → Laid B Bk q (q + i) (fun j => Value.int (lo8 (cv A (o + (j - q))))) →
      Steps p.tables e below (s₁.setTop (entryFrame m #[.ref b, .int (Int32.ofNat o), .ref d, .int (Int32.ofNat q), .int (Int32.ofNat len)] 7)) (Tl.setTop (mkF m 3 #[.val (.ref b), .val (.int (Int32.ofNat (o + i))), .val (.ref d), .val (.int (Int32.ofNat (q + i))), .val (.int (Int32.ofNat len)), .val (.int (Int32.ofNat i)), z] [])) → ∃ (T' : State) (B' : Cell) (z' : Slot), Stand p l e { frames := 0, locals := 0, cells := 0, slots := 0 } s m #[.ref b, .int (Int32.ofNat o), .ref d, .int (Int32.ofNat q), .int (Int32.ofNat len)] below meth c T' ([] ++ copyLocs d q len) 0 0 ∧ Put d B' s₁ T' ∧ Laid B B' q (q + len) (fun j => Value.int (lo8 (cv A (o + (j - q))))) ∧
      Steps p.tables e below (s₁.setTop (entryFrame m #[.ref b, .int (Int32.ofNat o), .ref d, .int (Int32.ofNat q), .int (Int32.ofNat len)] 7)) (T'.setTop (mkF m 3 #[.val (.ref b), .val (.int (Int32.ofNat (o + len))), .val (.ref d), .val (.int (Int32.ofNat (q + len))), .val (.int (Int32.ofNat len)), .val (.int (Int32.ofNat len)), z'] [])) := by
    intro r
    induction r with
    | zero =>
      intro i hi z hz Tl Bk Xl pl fl cl
      have hil : i = len := by omega
      rw [hil] at Xl fl cl
      exact ⟨Tl, Bk, z, Xl, pl, fl, cl⟩
    | succ r ih =>
      intro i hi z hz Tl Bk Xl pl fl cl
      have all := X0.warmed.alike.symm.trans Xl.warmed.alike
      have hAl := hA0.keep all (pl.other hne hA0.1)
      have hBk := hB0.like all pl.1 fl.1 fl.2.1 fl.2.2.1
      have hlt : q + i < Bk.slots.size := by rw [fl.2.2.1]; omega
      have c3 : Steps p.tables e below (s₁.setTop (entryFrame m #[.ref b, .int (Int32.ofNat o), .ref d, .int (Int32.ofNat q), .int (Int32.ofNat len)] 7)) (Tl.setTop (mkF m 12 #[.val (.ref b), .val (.int (Int32.ofNat (o + i))), .val (.ref d), .val (.int (Int32.ofNat (q + i))), .val (.int (Int32.ofNat len)), .val (.int (Int32.ofNat i)), z] [.int (Int32.ofNat (o + i)), .ref b])) := cl.trans (by
        refine XS.iload Xl.here hexec rfl (hb hbytes d3) rfl ?_
        refine XS.iload Xl.here hexec rfl (hb hbytes d5) rfl ?_
        refine XS.icmpNo Xl.here hexec rfl (hb hbytes d7) rfl (ii_ge_f (lt32 (by omega) (by omega))) ?_
        refine XS.aloadN Xl.here hexec rfl (hb hbytes d10) rfl rfl ?_
        refine XS.iloadN Xl.here hexec rfl (hb hbytes d11) rfl ?_
        exact Steps.refl _)
      have c4 : Steps p.tables e below (s₁.setTop (entryFrame m #[.ref b, .int (Int32.ofNat o), .ref d, .int (Int32.ofNat q), .int (Int32.ofNat len)] 7)) (Tl.setTop (mkF m 13 #[.val (.ref b), .val (.int (Int32.ofNat (o + i))), .val (.ref d), .val (.int (Int32.ofNat (q + i))), .val (.int (Int32.ofNat len)), .val (.int (Int32.ofNat i)), z] [.int (cv A (o + i))])) := c3.trans (by
        refine Xl.aget hexec hAl rfl (hA.get (i := o + i) (by omega)) rfl rfl (hb hbytes d12) ?_
        exact Steps.refl _)
      have c5 : Steps p.tables e below (s₁.setTop (entryFrame m #[.ref b, .int (Int32.ofNat o), .ref d, .int (Int32.ofNat q), .int (Int32.ofNat len)] 7)) (Tl.setTop (mkF m 15 #[.val (.ref b), .val (.int (Int32.ofNat (o + i))), .val (.ref d), .val (.int (Int32.ofNat (q + i))), .val (.int (Int32.ofNat len)), .val (.int (Int32.ofNat i)), .val (.int (cv A (o + i)))] [])) := c4.trans (by
        refine XS.istoreS Xl.here hexec rfl (hb hbytes d13) rfl rfl hz ?_
        exact Steps.refl _)
      have c6 : Steps p.tables e below (s₁.setTop (entryFrame m #[.ref b, .int (Int32.ofNat o), .ref d, .int (Int32.ofNat q), .int (Int32.ofNat len)] 7)) (Tl.setTop (mkF m 31 #[.val (.ref b), .val (.int (Int32.ofNat (o + i))), .val (.ref d), .val (.int (Int32.ofNat (q + i))), .val (.int (Int32.ofNat len)), .val (.int (Int32.ofNat i)), .val (.int (cv A (o + i)))] [.int (lo8 (cv A (o + i))), .int (Int32.ofNat (q + i)), .ref d])) := c5.trans (by
        refine XS.iload Xl.here hexec rfl (hb hbytes d15) rfl ?_
        refine sipushV Xl.here hexec rfl 255 (hb hbytes d17) (by decide) ?_
        refine XS.icmpYes Xl.here hexec rfl (pc0 := 20) rfl (hb hbytes d20) rfl (ii_le_t (hp i (by omega))) (by decide) rfl ?_
        refine XS.aloadN Xl.here hexec rfl (hb hbytes d26) rfl rfl ?_
        refine XS.iloadN Xl.here hexec rfl (hb hbytes d27) rfl ?_
        refine XS.iload Xl.here hexec rfl (hb hbytes d28) rfl ?_
        refine i2b Xl.here hexec rfl (hb hbytes d30) rfl ?_
        exact Steps.refl _)
      obtain ⟨T7, X7, p7, st7⟩ := Xl.aput hexec hBk rfl hlt rfl (fits_lo8 (cv A (o + i))) (g := (mkF m 31 #[.val (.ref b), .val (.int (Int32.ofNat (o + i))), .val (.ref d), .val (.int (Int32.ofNat (q + i))), .val (.int (Int32.ofNat len)), .val (.int (Int32.ofNat i)), .val (.int (cv A (o + i)))] [.int (lo8 (cv A (o + i))), .int (Int32.ofNat (q + i)), .ref d])) rfl (rest := []) rfl (hb hbytes d31)
      have c8 : Steps p.tables e below (s₁.setTop (entryFrame m #[.ref b, .int (Int32.ofNat o), .ref d, .int (Int32.ofNat q), .int (Int32.ofNat len)] 7)) (T7.setTop (mkF m 32 #[.val (.ref b), .val (.int (Int32.ofNat (o + i))), .val (.ref d), .val (.int (Int32.ofNat (q + i))), .val (.int (Int32.ofNat len)), .val (.int (Int32.ofNat i)), .val (.int (cv A (o + i)))] [])) := c6.trans (st7 _ (Steps.refl _))
      have c9 : Steps p.tables e below (s₁.setTop (entryFrame m #[.ref b, .int (Int32.ofNat o), .ref d, .int (Int32.ofNat q), .int (Int32.ofNat len)] 7)) (T7.setTop (mkF m 3 #[.val (.ref b), .val (.int (Int32.ofNat (o + i) + 1)), .val (.ref d), .val (.int (Int32.ofNat (q + i) + 1)), .val (.int (Int32.ofNat len)), .val (.int (Int32.ofNat i + 1)), .val (.int (cv A (o + i)))] [])) := c8.trans (by
        refine iincV X7.here hexec rfl 1 (hb hbytes d32) (by decide) rfl rfl ?_
        refine iincV X7.here hexec rfl 1 (hb hbytes d35) (by decide) rfl rfl ?_
        refine iincV X7.here hexec rfl 1 (hb hbytes d38) (by decide) rfl rfl ?_
        refine XS.goto X7.here hexec rfl (pc0 := 41) rfl (hb hbytes d41) (by decide) rfl ?_
        exact Steps.refl _)
      have c10 : Steps p.tables e below (s₁.setTop (entryFrame m #[.ref b, .int (Int32.ofNat o), .ref d, .int (Int32.ofNat q), .int (Int32.ofNat len)] 7)) (T7.setTop (mkF m 3 #[.val (.ref b), .val (.int (Int32.ofNat (o + (i + 1)))), .val (.ref d), .val (.int (Int32.ofNat (q + (i + 1)))), .val (.int (Int32.ofNat len)), .val (.int (Int32.ofNat (i + 1))), .val (.int (cv A (o + i)))] [])) := by
        have := c9
        rw [succ32, succ32, succ32] at this
        exact this
      exact ih (i + 1) (by omega) _ (Or.inr ⟨_, rfl, rfl⟩) T7 _ (by rw [copyLocs_step, ← List.append_assoc]; exact X7) (pl.trans p7) (fl.step (by omega) hlt (by simp)) c10
  obtain ⟨T9, B9, z9, X9, p9, f9, g9⟩ := loop len 0 (by omega) .unset (Or.inl rfl) s₁ B (by simpa [copyLocs] using X0) ⟨hB0.1, fun _ _ => rfl, rfl⟩ (Laid.zero _ _ _) c2
  have c11 : Steps p.tables e below (s₁.setTop (entryFrame m #[.ref b, .int (Int32.ofNat o), .ref d, .int (Int32.ofNat q), .int (Int32.ofNat len)] 7)) (T9.setTop (mkF m 46 #[.val (.ref b), .val (.int (Int32.ofNat (o + len))), .val (.ref d), .val (.int (Int32.ofNat (q + len))), .val (.int (Int32.ofNat len)), .val (.int (Int32.ofNat len)), z9] [.int (Int32.ofNat len)])) := g9.trans (by
    refine XS.iload X9.here hexec rfl (hb hbytes d3) rfl ?_
    refine XS.iload X9.here hexec rfl (hb hbytes d5) rfl ?_
    refine XS.icmpYes X9.here hexec rfl (pc0 := 7) rfl (hb hbytes d7) rfl (ii_ge_t (nlt32 (by omega) (Nat.le_refl _))) (by decide) rfl ?_
    refine XS.iload X9.here hexec rfl (hb hbytes d44) rfl ?_
    exact Steps.refl _)
  exact ⟨T9, some (.int (Int32.ofNat len)), _, _, _, X9, by simp, rfl, rfl, (fun h => by cases h), ⟨rfl, B9, p9.from hh0, f9⟩, fun fs hl => c11.trans (X9.ireturnOut hexec hret rfl (Or.inl rfl) (hb hbytes d46) hl)⟩
end Cmp5
namespace Cmp3
def yN : MethodName := ⟨"java/lang/StringUTF16", "compress", "([CII)[B"⟩
abbrev yB : ByteArray := jdk_52_method_16_code
theorem d0 : decode yB 0 = .ok (.iload_n 2, 1) := by decide +kernel
theorem d1 : decode yB 1 = .ok (.newarray .byte, 2) := by decide +kernel
theorem d3 : decode yB 3 = .ok (.astore_n 3, 1) := by decide +kernel
theorem d4 : decode yB 4 = .ok (.aload_n 0, 1) := by decide +kernel
theorem d5 : decode yB 5 = .ok (.iload_n 1, 1) := by decide +kernel
theorem d6 : decode yB 6 = .ok (.aload_n 3, 1) := by decide +kernel
theorem d7 : decode yB 7 = .ok (.iconst 0, 1) := by decide +kernel
theorem d8 : decode yB 8 = .ok (.iload_n 2, 1) := by decide +kernel
theorem d9 : decode yB 9 = .ok (.invokestatic 115, 3) := by decide +kernel
theorem d12 : decode yB 12 = .ok (.istore 4, 2) := by decide +kernel
theorem d14 : decode yB 14 = .ok (.iload 4, 2) := by decide +kernel
theorem d16 : decode yB 16 = .ok (.iload_n 2, 1) := by decide +kernel
theorem d17 : decode yB 17 = .ok (.if_icmp (.eq) 40, 3) := by decide +kernel
theorem d57 : decode yB 57 = .ok (.aload_n 3, 1) := by decide +kernel
theorem d58 : decode yB 58 = .ok (.areturn, 1) := by decide +kernel
def site : List Cond := [.arrayClass .byte, Cmp5.tab] ++ staticW U16 115 Cmp5.yN
def tab : Cond := tabOf yN yB 6 (some (.array .byte)) site
def P (b : Addr) (A : Cell) (o len : Nat) (args : Array Value) (s : State) : Prop := args = #[.ref b, .int (Int32.ofNat o), .int (Int32.ofNat len)] ∧ Ch b A s ∧ o + len ≤ A.slots.size ∧ len ≤ 536870912 ∧ ∀ i, i < len → ¬ 255 < cv A (o + i)
def E (b : Addr) (A : Cell) (o len : Nat) (r : Option Value) (s u : State) : Prop := NewArr .byte "[B" len (fun j => .int (lo8 (cv A (o + j)))) r s u ∧ u.heap.size = s.heap.size + 1
/-- no char of the range above 255: a new byte[] of their low bytes -/
theorem law (l : Launch) (b : Addr) (A : Cell) (o len : Nat) : Law l yN 3 3 1 18 yB 6 (some (.array .byte)) site (P b A o len) (E b A o len) [] 1 len := by
  refine Law.of_walk (plainFor_of_name (by decide +kernel)) (by decide +kernel) (by decide +kernel) (by decide) (fun _ _ h => by rw [h.1]; rfl) (fun _ U U' hal hh h => ⟨h.1, h.2.1.mv hal hh, h.2.2⟩) (fun r U U' V V' h1 hal h2 h => ⟨NewArr.mv r U U' V V' h1 hal h2 h.1, by rw [h1, h2]; exact h.2⟩) ?_
  intro p e s m args below meth c s₁ X0 hexec hbytes hml hret hlk hnm hown hh0 W hP
  obtain ⟨rfl, hA, l1, l2, hp⟩ := hP
  have a31 := hA.1.2.2.2
  have c1 : Steps p.tables e below (s₁.setTop (entryFrame m #[.ref b, .int (Int32.ofNat o), .int (Int32.ofNat len)] 6)) (s₁.setTop (mkF m 0 #[.val (.ref b), .val (.int (Int32.ofNat o)), .val (.int (Int32.ofNat len)), .unset, .unset, .unset] [])) := entry rfl
  have c2 : Steps p.tables e below (s₁.setTop (entryFrame m #[.ref b, .int (Int32.ofNat o), .int (Int32.ofNat len)] 6)) (s₁.setTop (mkF m 1 #[.val (.ref b), .val (.int (Int32.ofNat o)), .val (.int (Int32.ofNat len)), .unset, .unset, .unset] [.int (Int32.ofNat len)])) := c1.trans (by
    refine XS.iloadN X0.here hexec rfl (hb hbytes d0) rfl ?_
    exact Steps.refl _)
  obtain ⟨T3, B3, X3, ba3, bs3, bv3, bh3, bf3, st3⟩ := X0.anew hexec (atype := .byte) (wk W (.arrayClass .byte)) rfl (by show len * 1 ≤ _; omega) (by omega) (g := (mkF m 1 #[.val (.ref b), .val (.int (Int32.ofNat o)), .val (.int (Int32.ofNat len)), .unset, .unset, .unset] [.int (Int32.ofNat len)])) rfl (hb hbytes d1) (rest := []) rfl (Nat.le_refl _) (by show 0 + len ≤ len; omega)
  rw [hh0] at ba3 st3
  have kp3 : XT.Kept s T3 := (XT.Kept.of_eq hh0).push bh3
  have hA3 := hA.keep X3.warmed.alike (kp3 _ _ hA.1.1)
  have hne : b ≠ s.heap.size := hA.1.ne
  have c4 : Steps p.tables e below (s₁.setTop (entryFrame m #[.ref b, .int (Int32.ofNat o), .int (Int32.ofNat len)] 6)) (T3.setTop (mkF m 3 #[.val (.ref b), .val (.int (Int32.ofNat o)), .val (.int (Int32.ofNat len)), .unset, .unset, .unset] [.ref s.heap.size])) := c2.trans (st3 _ (Steps.refl _))
  have c5 : Steps p.tables e below (s₁.setTop (entryFrame m #[.ref b, .int (Int32.ofNat o), .int (Int32.ofNat len)] 6)) (T3.setTop (mkF m 9 #[.val (.ref b), .val (.int (Int32.ofNat o)), .val (.int (Int32.ofNat len)), .val (.ref s.heap.size), .unset, .unset] [.int (Int32.ofNat len), .int 0, .ref s.heap.size, .int (Int32.ofNat o), .ref b])) := c4.trans (by
    refine XS.astoreN X3.here hexec rfl (hb hbytes d3) rfl rfl rfl ?_
    refine XS.aloadN X3.here hexec rfl (hb hbytes d4) rfl rfl ?_
    refine XS.iloadN X3.here hexec rfl (hb hbytes d5) rfl ?_
    refine XS.aloadN X3.here hexec rfl (hb hbytes d6) rfl rfl ?_
    refine iconstV X3.here hexec rfl 0 (hb hbytes d7) (by decide) ?_
    refine XS.iloadN X3.here hexec rfl (hb hbytes d8) rfl ?_
    exact Steps.refl _)
  obtain ⟨v6, T6, X6, E6, g6⟩ := X3.callS hexec (Cmp5.law l b A s.heap.size B3 o 0 len) hown (wks W (staticW U16 115 Cmp5.yN)) (wk W Cmp5.tab) (W := 0) (Nat.le_of_ble_eq_true rfl) (Nat.le_of_ble_eq_true rfl) (Nat.le_refl _) (by show 0 + len + 0 ≤ len; omega) (g := (mkF m 9 #[.val (.ref b), .val (.int (Int32.ofNat o)), .val (.int (Int32.ofNat len)), .val (.ref s.heap.size), .unset, .unset] [.int (Int32.ofNat len), .int (Int32.ofNat 0), .ref s.heap.size, .int (Int32.ofNat o), .ref b])) rfl (by rw [hml]; rfl) c5 (argsL := [.ref b, .int (Int32.ofNat o), .ref s.heap.size, .int (Int32.ofNat 0), .int (Int32.ofNat len)]) (rest := []) rfl rfl (by show 2 * 0 + 0 ≤ _; decide) (hb hbytes d9) (⟨rfl, hA3, ba3, hne, l1, by rw [bs3]; simp, hp⟩)
  obtain ⟨rfl, B6, p6, f6⟩ := E6
  have c7 : Steps p.tables e below (s₁.setTop (entryFrame m #[.ref b, .int (Int32.ofNat o), .int (Int32.ofNat len)] 6)) (T6.setTop (mkF m 12 #[.val (.ref b), .val (.int (Int32.ofNat o)), .val (.int (Int32.ofNat len)), .val (.ref s.heap.size), .unset, .unset] [.int (Int32.ofNat len)])) := g6
  have c8 : Steps p.tables e below (s₁.setTop (entryFrame m #[.ref b, .int (Int32.ofNat o), .int (Int32.ofNat len)] 6)) (T6.setTop (mkF m 58 #[.val (.ref b), .val (.int (Int32.ofNat o)), .val (.int (Int32.ofNat len)), .val (.ref s.heap.size), .val (.int (Int32.ofNat len)), .unset] [.ref s.heap.size])) := c7.trans (by
    refine XS.istore X6.here hexec rfl (hb hbytes d12) rfl rfl ?_
    refine XS.iload X6.here hexec rfl (hb hbytes d14) rfl ?_
    refine XS.iloadN X6.here hexec rfl (hb hbytes d16) rfl ?_
    refine XS.icmpYes X6.here hexec rfl (pc0 := 17) rfl (hb hbytes d17) rfl (ii_eq_t rfl) (by decide) rfl ?_
    refine XS.aloadN X6.here hexec rfl (hb hbytes d57) rfl rfl ?_
    exact Steps.refl _)
  have X8 := X6.wide (L' := []) (cells' := 1) (slots' := len) (fun x hx hlt => by
    simp only [List.nil_append, copyLocs, List.mem_map, List.mem_range] at hx
    obtain ⟨i, -, rfl⟩ := hx
    exact absurd hlt (Nat.lt_irrefl _)) (Nat.le_refl _) (by omega)
  exact ⟨T6, some (.ref s.heap.size), _, _, _, X8, rfl, rfl, rfl, (fun h => by cases h), ⟨⟨rfl, B6, ba3.like (X3.warmed.alike.symm.trans X6.warmed.alike) p6.1 f6.1 f6.2.1 f6.2.2.1, f6.2.1.trans bv3, by rw [X6.warmed.alike.findClass, f6.1]; exact bf3, by rw [f6.2.2.1, bs3]; simp, fun j hj => by rw [f6.2.2.2 j, if_pos (by omega)]; rfl, kp3.put p6 (Nat.le_refl _)⟩, by rw [p6.2.2, bh3, hh0]; simp⟩, fun fs hl => c8.trans (X8.areturnOut hexec rfl hret rfl (hb hbytes d58) hl)⟩
end Cmp3
namespace CodL
def yN : MethodName := ⟨"java/lang/StringUTF16", "coderFromArrayLen", "([BI)B"⟩
abbrev yB : ByteArray := jdk_52_method_15_code
theorem d0 : decode yB 0 = .ok (.iload_n 1, 1) := by decide +kernel
theorem d1 : decode yB 1 = .ok (.aload_n 0, 1) := by decide +kernel
theorem d2 : decode yB 2 = .ok (.arraylength, 1) := by decide +kernel
theorem d3 : decode yB 3 = .ok (.isub, 1) := by decide +kernel
theorem d4 : decode yB 4 = .ok (.bipush 31, 2) := by decide +kernel
theorem d6 : decode yB 6 = .ok (.iushr, 1) := by decide +kernel
theorem d7 : decode yB 7 = .ok (.i2b, 1) := by decide +kernel
theorem d8 : decode yB 8 = .ok (.ireturn, 1) := by decide +kernel
def site : List Cond := []
def tab : Cond := tabOf yN yB 2 (some .byte) site
def P (d : Addr) (B : Cell) (args : Array Value) (s : State) : Prop := args = #[.ref d, .int (Int32.ofNat B.slots.size)] ∧ Arr .byte d B s
def E (r : Option Value) (s u : State) : Prop := XT.PureE (some (.int 0)) r s u
/-- an array as long as the number of chars: LATIN1 -/
theorem law (l : Launch) (d : Addr) (B : Cell) : Law l yN 2 2 0 0 yB 2 (some .byte) site (P d B) E [] 0 0 := by
  refine Law.of_walk (plainFor_of_name (by decide +kernel)) (by decide +kernel) (by decide +kernel) (by decide) (fun _ _ h => by rw [h.1]; rfl) (fun _ U U' hal hh h => ⟨h.1, h.2.mv hal hh⟩) (fun r U U' V V' h1 hal h2 h => XT.PureE.mv r U U' V V' h1 hal h2 h) ?_
  intro p e s m args below meth c s₁ X0 hexec hbytes hml hret hlk hnm hown hh0 W hP
  obtain ⟨rfl, hB⟩ := hP
  have hB0 := hB.mv X0.warmed.alike hh0
  have c1 : Steps p.tables e below (s₁.setTop (entryFrame m #[.ref d, .int (Int32.ofNat B.slots.size)] 2)) (s₁.setTop (mkF m 0 #[.val (.ref d), .val (.int (Int32.ofNat B.slots.size))] [])) := entry rfl
  have c2 : Steps p.tables e below (s₁.setTop (entryFrame m #[.ref d, .int (Int32.ofNat B.slots.size)] 2)) (s₁.setTop (mkF m 2 #[.val (.ref d), .val (.int (Int32.ofNat B.slots.size))] [.ref d, .int (Int32.ofNat B.slots.size)])) := c1.trans (by
    refine XS.iloadN X0.here hexec rfl (hb hbytes d0) rfl ?_
    refine XS.aloadN X0.here hexec rfl (hb hbytes d1) rfl rfl ?_
    exact Steps.refl _)
  have c3 : Steps p.tables e below (s₁.setTop (entryFrame m #[.ref d, .int (Int32.ofNat B.slots.size)] 2)) (s₁.setTop (mkF m 8 #[.val (.ref d), .val (.int (Int32.ofNat B.slots.size))] [.int (lo8 (ushr (Int32.ofNat B.slots.size - Int32.ofNat B.slots.size) 31))])) := c2.trans (by
    refine X0.alen hexec hB0 rfl rfl (hb hbytes d2) ?_
    refine XS.isub X0.here hexec rfl (hb hbytes d3) rfl ?_
    refine bipushV X0.here hexec rfl 31 (hb hbytes d4) (by decide) ?_
    refine iushr X0.here hexec rfl (hb hbytes d6) rfl ?_
    refine i2b X0.here hexec rfl (hb hbytes d7) rfl ?_
    exact Steps.refl _)
  have e0 : lo8 (ushr (Int32.ofNat B.slots.size - Int32.ofNat B.slots.size) 31) = 0 := by rw [Int32.sub_self]; decide
  rw [e0] at c3
  exact ⟨s₁, some (.int 0), _, _, _, X0, rfl, rfl, rfl, (fun h => by cases h), ⟨rfl, hh0⟩, fun fs hl => c3.trans (X0.ireturnOut hexec hret rfl (Or.inr (Or.inr (Or.inl rfl))) (hb hbytes d8) hl)⟩
end CodL
/-- the String at a is Latin-1 over a new byte[] (the heap's one new cell): the low bytes of the len chars of A from o on; every cell but a is kept -/
def Got (a : Addr) (D : Cell) (fV fC : Field) (A : Cell) (o len : Nat) (r : Option Value) (s u : State) : Prop := r = none ∧ ∃ D' V : Cell, Blank "java/lang/String" a D' u ∧ Same D D' [fV.slot, fC.slot] ∧ D'.slots[fV.slot]? = some (.ref s.heap.size) ∧ D'.slots[fC.slot]? = some (.int 0) ∧ Arr .byte s.heap.size V u ∧ V.vm = .none ∧ u.vm.findClass "[B" = some V.cls ∧ V.slots.size = len ∧ (∀ j, j < len → V.slots[j]? = some (.int (lo8 (cv A (o + j))))) ∧ (∀ (y : Addr) (c : Cell), y ≠ a → s.heap[y]? = some c → u.heap[y]? = some c) ∧ u.heap.size = s.heap.size + 1
theorem Got.mv {a : Addr} {D A : Cell} {fV fC : Field} {o len : Nat} : ∀ r (U U' V V' : State), U'.heap = U.heap → V.vm.Alike V'.vm → V'.heap = V.heap → Got a D fV fC A o len r U V → Got a D fV fC A o len r U' V' :=
  fun r U U' V V' h1 hal h2 ⟨e0, D', X, a1, a2, a3, a4, a5, a6, a7, a8, a9, a10, a11⟩ => ⟨e0, D', X, a1.mv hal h2, a2, by rw [h1]; exact a3, a4, by rw [h1]; exact a5.mv hal h2, a6, by rw [hal.findClass]; exact a7, a8, a9, by rw [h1, h2]; exact a10, by rw [h1, h2]; exact a11⟩
namespace New4
def yN : MethodName := ⟨"java/lang/String", "<init>", "([CIILjava/lang/Void;)V"⟩
abbrev yB : ByteArray := jdk_42_method_149_code
theorem d0 : decode yB 0 = .ok (.aload_n 0, 1) := by decide +kernel
theorem d1 : decode yB 1 = .ok (.invokespecial 1, 3) := by decide +kernel
theorem d4 : decode yB 4 = .ok (.iload_n 3, 1) := by decide +kernel
theorem d5 : decode yB 5 = .ok (.ifCond (.ne) 22, 3) := by decide +kernel
theorem d27 : decode yB 27 = .ok (.getstatic 38, 3) := by decide +kernel
theorem d30 : decode yB 30 = .ok (.ifCond (.eq) 28, 3) := by decide +kernel
theorem d33 : decode yB 33 = .ok (.aload_n 1, 1) := by decide +kernel
theorem d34 : decode yB 34 = .ok (.iload_n 2, 1) := by decide +kernel
theorem d35 : decode yB 35 = .ok (.iload_n 3, 1) := by decide +kernel
theorem d36 : decode yB 36 = .ok (.invokestatic 177, 3) := by decide +kernel
theorem d39 : decode yB 39 = .ok (.astore 5, 2) := by decide +kernel
theorem d41 : decode yB 41 = .ok (.aload_n 0, 1) := by decide +kernel
theorem d42 : decode yB 42 = .ok (.aload 5, 2) := by decide +kernel
theorem d44 : decode yB 44 = .ok (.iload_n 3, 1) := by decide +kernel
theorem d45 : decode yB 45 = .ok (.invokestatic 47, 3) := by decide +kernel
theorem d48 : decode yB 48 = .ok (.putfield 15, 3) := by decide +kernel
theorem d51 : decode yB 51 = .ok (.aload_n 0, 1) := by decide +kernel
theorem d52 : decode yB 52 = .ok (.aload 5, 2) := by decide +kernel
theorem d54 : decode yB 54 = .ok (.putfield 9, 3) := by decide +kernel
theorem d57 : decode yB 57 = .ok (.return_, 1) := by decide +kernel
def site : List Cond := [.fieldLink "java/lang/String" 38 "java/lang/String" "COMPACT_STRINGS" "Z", Cmp3.tab, CodL.tab, .laysFinal "java/lang/String" "java/lang/String" "value" "[B", .fieldLink "java/lang/String" 9 "java/lang/String" "value" "[B", .laysFinal "java/lang/String" "java/lang/String" "coder" "B", .fieldLink "java/lang/String" 15 "java/lang/String" "coder" "B"] ++ objW "java/lang/String" 1 ++ staticW "java/lang/String" 177 Cmp3.yN ++ staticW "java/lang/String" 47 CodL.yN
def tab : Cond := tabOf yN yB 6 none site
def P (a : Addr) (D : Cell) (fV fC : Field) (b : Addr) (A : Cell) (z : Int32) (o len : Nat) (args : Array Value) (s : State) : Prop := args = #[.ref a, .ref b, .int (Int32.ofNat o), .int (Int32.ofNat len), .null] ∧ Blank "java/lang/String" a D s ∧ Found "java/lang/String" "value" "[B" fV s ∧ Found "java/lang/String" "coder" "B" fC s ∧ Ch b A s ∧ StaticIs s "java/lang/String" "COMPACT_STRINGS" "Z" (.int z) ∧ ¬ z = 0 ∧ 0 < len ∧ o + len ≤ A.slots.size ∧ len ≤ 536870912 ∧ ∀ i, i < len → ¬ 255 < cv A (o + i)
def E (a : Addr) (D : Cell) (fV fC : Field) (A : Cell) (o len : Nat) (r : Option Value) (s u : State) : Prop := Got a D fV fC A o len r s u
/-- len > 0, no char of the range above 255: a Latin-1 String of their low bytes -/
theorem law (l : Launch) (a : Addr) (D : Cell) (fV fC : Field) (b : Addr) (A : Cell) (z : Int32) (o len : Nat) : Law l yN 5 4 2 35 yB 6 none site (P a D fV fC b A z o len) (E a D fV fC A o len) [⟨a, fC.slot⟩, ⟨a, fV.slot⟩] 1 len := by
  refine Law.of_walk (plainFor_of_name (by decide +kernel)) (by decide +kernel) (by decide +kernel) (by decide) (fun _ _ h => by rw [h.1]; rfl) (fun _ U U' hal hh h => ⟨h.1, h.2.1.mv hal hh, h.2.2.1.al hal, h.2.2.2.1.al hal, h.2.2.2.2.1.mv hal hh, h.2.2.2.2.2.1.there hal hh, h.2.2.2.2.2.2⟩) (fun r U U' V V' h1 hal h2 h => Got.mv r U U' V V' h1 hal h2 h) ?_
  intro p e s m args below meth c s₁ X0 hexec hbytes hml hret hlk hnm hown hh0 W hP
  obtain ⟨rfl, hB, f1, f2, hA, s1, hz, l0, l1, l2, hp⟩ := hP
  have a31 := hA.1.2.2.2
  have c1 : Steps p.tables e below (s₁.setTop (entryFrame m #[.ref a, .ref b, .int (Int32.ofNat o), .int (Int32.ofNat len), .null] 6)) (s₁.setTop (mkF m 0 #[.val (.ref a), .val (.ref b), .val (.int (Int32.ofNat o)), .val (.int (Int32.ofNat len)), .val .null, .unset] [])) := entry rfl
  have c2 : Steps p.tables e below (s₁.setTop (entryFrame m #[.ref a, .ref b, .int (Int32.ofNat o), .int (Int32.ofNat len), .null] 6)) (s₁.setTop (mkF m 1 #[.val (.ref a), .val (.ref b), .val (.int (Int32.ofNat o)), .val (.int (Int32.ofNat len)), .val .null, .unset] [.ref a])) := c1.trans (by
    refine XS.aloadN X0.here hexec rfl (hb hbytes d0) rfl rfl ?_
    exact Steps.refl _)
  obtain ⟨T3, X3, q3, st3⟩ := X0.oinit hexec hown (wks W (objW "java/lang/String" 1)) (g := (mkF m 1 #[.val (.ref a), .val (.ref b), .val (.int (Int32.ofNat o)), .val (.int (Int32.ofNat len)), .val .null, .unset] [.ref a])) rfl (by rw [hml]; rfl) (rest := []) rfl (hb hbytes d1) (W := 0) (by show 2 * 0 + 0 ≤ _; decide) (Nat.le_of_ble_eq_true rfl) (Nat.le_of_ble_eq_true rfl)
  have hh3 := q3.trans hh0
  have c4 : Steps p.tables e below (s₁.setTop (entryFrame m #[.ref a, .ref b, .int (Int32.ofNat o), .int (Int32.ofNat len), .null] 6)) (T3.setTop (mkF m 27 #[.val (.ref a), .val (.ref b), .val (.int (Int32.ofNat o)), .val (.int (Int32.ofNat len)), .val .null, .unset] [])) := (c2.trans (st3 _ (Steps.refl _))).trans (by
    refine XS.iloadN X3.here hexec rfl (hb hbytes d4) rfl ?_
    refine XS.ifYes X3.here hexec rfl (pc0 := 5) rfl (hb hbytes d5) rfl (i0_ne_t (nz32 (by omega) l0)) (by decide) rfl ?_
    exact Steps.refl _)
  obtain ⟨T5, X5, q5, st5⟩ := X3.sget hexec hown (wk W (.fieldLink "java/lang/String" 38 "java/lang/String" "COMPACT_STRINGS" "Z")) s1 (fun _ _ h => by rw [hh3]; exact h) (g := (mkF m 27 #[.val (.ref a), .val (.ref b), .val (.int (Int32.ofNat o)), .val (.int (Int32.ofNat len)), .val .null, .unset] [])) rfl (hb hbytes d27)
  have hh5 := q5.trans hh3
  have c6 : Steps p.tables e below (s₁.setTop (entryFrame m #[.ref a, .ref b, .int (Int32.ofNat o), .int (Int32.ofNat len), .null] 6)) (T5.setTop (mkF m 30 #[.val (.ref a), .val (.ref b), .val (.int (Int32.ofNat o)), .val (.int (Int32.ofNat len)), .val .null, .unset] [.int z])) := c4.trans (st5 _ (Steps.refl _))
  have c7 : Steps p.tables e below (s₁.setTop (entryFrame m #[.ref a, .ref b, .int (Int32.ofNat o), .int (Int32.ofNat len), .null] 6)) (T5.setTop (mkF m 36 #[.val (.ref a), .val (.ref b), .val (.int (Int32.ofNat o)), .val (.int (Int32.ofNat len)), .val .null, .unset] [.int (Int32.ofNat len), .int (Int32.ofNat o), .ref b])) := c6.trans (by
    refine XS.ifNo X5.here hexec rfl (hb hbytes d30) rfl (i0_eq_f hz) ?_
    refine XS.aloadN X5.here hexec rfl (hb hbytes d33) rfl rfl ?_
    refine XS.iloadN X5.here hexec rfl (hb hbytes d34) rfl ?_
    refine XS.iloadN X5.here hexec rfl (hb hbytes d35) rfl ?_
    exact Steps.refl _)
  obtain ⟨v8, T8, X8, E8, g8⟩ := X5.callS hexec (Cmp3.law l b A o len) hown (wks W (staticW "java/lang/String" 177 Cmp3.yN)) (wk W Cmp3.tab) (W := 0) (Nat.le_of_ble_eq_true rfl) (Nat.le_of_ble_eq_true rfl) (Nat.le_refl _) (by show 0 + len ≤ len; omega) (g := (mkF m 36 #[.val (.ref a), .val (.ref b), .val (.int (Int32.ofNat o)), .val (.int (Int32.ofNat len)), .val .null, .unset] [.int (Int32.ofNat len), .int (Int32.ofNat o), .ref b])) rfl (by rw [hml]; rfl) c7 (argsL := [.ref b, .int (Int32.ofNat o), .int (Int32.ofNat len)]) (rest := []) rfl rfl (by show 2 * 0 + 0 ≤ _; decide) (hb hbytes d36) (⟨rfl, hA.mv X5.warmed.alike hh5, l1, l2, hp⟩)
  obtain ⟨e8, z8⟩ := E8
  obtain ⟨rfl, N, n1, n2, n3, n4, n5, n6⟩ := NewArr.mv _ T5 s _ _ hh5.symm (Vm.Alike.refl _) rfl e8
  rw [hh5] at z8
  have hB1 := hB.keep X8.warmed.alike (n6 _ _ hB.1)
  have hne : s.heap.size ≠ a := (Nat.ne_of_lt (Array.getElem?_eq_some_iff.mp hB.1).1).symm
  have c9 : Steps p.tables e below (s₁.setTop (entryFrame m #[.ref a, .ref b, .int (Int32.ofNat o), .int (Int32.ofNat len), .null] 6)) (T8.setTop (mkF m 39 #[.val (.ref a), .val (.ref b), .val (.int (Int32.ofNat o)), .val (.int (Int32.ofNat len)), .val .null, .unset] [.ref s.heap.size])) := g8
  have c10 : Steps p.tables e below (s₁.setTop (entryFrame m #[.ref a, .ref b, .int (Int32.ofNat o), .int (Int32.ofNat len), .null] 6)) (T8.setTop (mkF m 45 #[.val (.ref a), .val (.ref b), .val (.int (Int32.ofNat o)), .val (.int (Int32.ofNat len)), .val .null, .val (.ref s.heap.size)] [.int (Int32.ofNat N.slots.size), .ref s.heap.size, .ref a])) := by
    have hc : Steps p.tables e below (s₁.setTop (entryFrame m #[.ref a, .ref b, .int (Int32.ofNat o), .int (Int32.ofNat len), .null] 6)) (T8.setTop (mkF m 45 #[.val (.ref a), .val (.ref b), .val (.int (Int32.ofNat o)), .val (.int (Int32.ofNat len)), .val .null, .val (.ref s.heap.size)] [.int (Int32.ofNat len), .ref s.heap.size, .ref a])) := c9.trans (by
      refine XS.astore X8.here hexec rfl (hb hbytes d39) rfl rfl rfl ?_
      refine XS.aloadN X8.here hexec rfl (hb hbytes d41) rfl rfl ?_
      refine XS.aload X8.here hexec rfl (hb hbytes d42) rfl rfl ?_
      refine XS.iloadN X8.here hexec rfl (hb hbytes d44) rfl ?_
      exact Steps.refl _)
    rw [n4]; exact hc
  obtain ⟨v11, T11, X11, E11, g11⟩ := X8.callS hexec (CodL.law l s.heap.size N) hown (wks W (staticW "java/lang/String" 47 CodL.yN)) (wk W CodL.tab) (W := 1) (Nat.le_of_ble_eq_true rfl) (Nat.le_of_ble_eq_true rfl) (Nat.le_refl _) (by show 0 + len + 0 ≤ len; omega) (g := (mkF m 45 #[.val (.ref a), .val (.ref b), .val (.int (Int32.ofNat o)), .val (.int (Int32.ofNat len)), .val .null, .val (.ref s.heap.size)] [.int (Int32.ofNat N.slots.size), .ref s.heap.size, .ref a])) rfl (by rw [hml]; rfl) c10 (argsL := [.ref s.heap.size, .int (Int32.ofNat N.slots.size)]) (rest := [.ref a]) rfl rfl (by show 2 * 0 + (1 + 0) ≤ _; decide) (hb hbytes d45) (⟨rfl, n1⟩)
  obtain ⟨rfl, q11⟩ := E11
  have hB11 := hB1.mv (X8.warmed.alike.symm.trans X11.warmed.alike) q11
  have c12 : Steps p.tables e below (s₁.setTop (entryFrame m #[.ref a, .ref b, .int (Int32.ofNat o), .int (Int32.ofNat len), .null] 6)) (T11.setTop (mkF m 48 #[.val (.ref a), .val (.ref b), .val (.int (Int32.ofNat o)), .val (.int (Int32.ofNat len)), .val .null, .val (.ref s.heap.size)] [.int 0, .ref a])) := g11
  obtain ⟨T13, X13, p13, bl13, sl13, st13⟩ := X11.finit hexec hown (wk W (.fieldLink "java/lang/String" 15 "java/lang/String" "coder" "B")) (Or.inr ⟨_, (wk W (.laysFinal "java/lang/String" "java/lang/String" "coder" "B"))⟩) (Or.inl ⟨rfl, hnm⟩) f2 (Or.inl rfl) hB11 (t := .byte) (by decide +kernel) rfl (g := (mkF m 48 #[.val (.ref a), .val (.ref b), .val (.int (Int32.ofNat o)), .val (.int (Int32.ofNat len)), .val .null, .val (.ref s.heap.size)] [.int 0, .ref a])) rfl (rest := []) rfl (hb hbytes d48)
  have c14 : Steps p.tables e below (s₁.setTop (entryFrame m #[.ref a, .ref b, .int (Int32.ofNat o), .int (Int32.ofNat len), .null] 6)) (T13.setTop (mkF m 54 #[.val (.ref a), .val (.ref b), .val (.int (Int32.ofNat o)), .val (.int (Int32.ofNat len)), .val .null, .val (.ref s.heap.size)] [.ref s.heap.size, .ref a])) := (c12.trans (st13 _ (Steps.refl _))).trans (by
    refine XS.aloadN X13.here hexec rfl (hb hbytes d51) rfl rfl ?_
    refine XS.aload X13.here hexec rfl (hb hbytes d52) rfl rfl ?_
    exact Steps.refl _)
  obtain ⟨T15, X15, p15, bl15, sl15, st15⟩ := X13.finit hexec hown (wk W (.fieldLink "java/lang/String" 9 "java/lang/String" "value" "[B")) (Or.inr ⟨_, (wk W (.laysFinal "java/lang/String" "java/lang/String" "value" "[B"))⟩) (Or.inl ⟨rfl, hnm⟩) f1 (Or.inl rfl) bl13 (t := (.array .byte)) (by decide +kernel) rfl (g := (mkF m 54 #[.val (.ref a), .val (.ref b), .val (.int (Int32.ofNat o)), .val (.int (Int32.ofNat len)), .val .null, .val (.ref s.heap.size)] [.ref s.heap.size, .ref a])) rfl (rest := []) rfl (hb hbytes d54)
  have c16 : Steps p.tables e below (s₁.setTop (entryFrame m #[.ref a, .ref b, .int (Int32.ofNat o), .int (Int32.ofNat len), .null] 6)) (T15.setTop (mkF m 57 #[.val (.ref a), .val (.ref b), .val (.int (Int32.ofNat o)), .val (.int (Int32.ofNat len)), .val .null, .val (.ref s.heap.size)] [])) := c14.trans (st15 _ (Steps.refl _))
  have ap := apart (Or.inr ⟨_, (wk W (.laysFinal "java/lang/String" "java/lang/String" "value" "[B"))⟩) (Or.inr ⟨_, (wk W (.laysFinal "java/lang/String" "java/lang/String" "coder" "B"))⟩) f1 f2 (t₁ := .array .byte) (t₂ := .byte) (by decide +kernel) (by decide +kernel) (by decide)
  have al := X8.warmed.alike.symm.trans X15.warmed.alike
  have n7 : T11.heap[s.heap.size]? = some N := by rw [q11]; exact n1.1
  exact ⟨T15, none, _, _, _, X15, by simp, rfl, by omega, (fun _ => rfl), ⟨rfl, _, N, bl15, ((Same.refl D _).set _ (by simp)).set _ (by simp), sl15, (Cell.slots_setSlot_ne _ ap).trans sl13, n1.keep al (p15.other hne (p13.other hne n7)), n2, by rw [al.findClass]; exact n3, n4, n5, fun y c h1 h2 => p15.other h1 (p13.other h1 (by rw [q11]; exact n6 y c h2)), by rw [p15.2.2, p13.2.2, q11]; exact z8⟩, fun fs hl => c16.trans (X15.returnOut hexec hret (hb hbytes d57) hl)⟩
end New4
namespace New1
def yN : MethodName := ⟨"java/lang/String", "<init>", "([C)V"⟩
abbrev yB : ByteArray := jdk_42_method_3_code
theorem d0 : decode yB 0 = .ok (.aload_n 0, 1) := by decide +kernel
theorem d1 : decode yB 1 = .ok (.aload_n 1, 1) := by decide +kernel
theorem d2 : decode yB 2 = .ok (.iconst 0, 1) := by decide +kernel
theorem d3 : decode yB 3 = .ok (.aload_n 1, 1) := by decide +kernel
theorem d4 : decode yB 4 = .ok (.arraylength, 1) := by decide +kernel
theorem d5 : decode yB 5 = .ok (.aconst_null, 1) := by decide +kernel
theorem d6 : decode yB 6 = .ok (.invokespecial 27, 3) := by decide +kernel
theorem d9 : decode yB 9 = .ok (.return_, 1) := by decide +kernel
def site : List Cond := [New4.tab] ++ initW "java/lang/String" 27 New4.yN
def tab : Cond := tabOf yN yB 2 none site
def P (a : Addr) (D : Cell) (fV fC : Field) (b : Addr) (A : Cell) (z : Int32) (args : Array Value) (s : State) : Prop := args = #[.ref a, .ref b] ∧ Blank "java/lang/String" a D s ∧ Found "java/lang/String" "value" "[B" fV s ∧ Found "java/lang/String" "coder" "B" fC s ∧ Ch b A s ∧ StaticIs s "java/lang/String" "COMPACT_STRINGS" "Z" (.int z) ∧ ¬ z = 0 ∧ 0 < A.slots.size ∧ A.slots.size ≤ 536870912 ∧ ∀ i, i < A.slots.size → ¬ 255 < cv A i
def E (a : Addr) (D : Cell) (fV fC : Field) (A : Cell) (r : Option Value) (s u : State) : Prop := Got a D fV fC A 0 A.slots.size r s u
/-- new String(chars), not empty, no char above 255: a Latin-1 String of their low bytes -/
theorem law (l : Launch) (a : Addr) (D : Cell) (fV fC : Field) (b : Addr) (A : Cell) (z : Int32) : Law l yN 2 1 3 52 yB 2 none site (P a D fV fC b A z) (E a D fV fC A) [⟨a, fC.slot⟩, ⟨a, fV.slot⟩] 1 A.slots.size := by
  refine Law.of_walk (plainFor_of_name (by decide +kernel)) (by decide +kernel) (by decide +kernel) (by decide) (fun _ _ h => by rw [h.1]; rfl) (fun _ U U' hal hh h => ⟨h.1, h.2.1.mv hal hh, h.2.2.1.al hal, h.2.2.2.1.al hal, h.2.2.2.2.1.mv hal hh, h.2.2.2.2.2.1.there hal hh, h.2.2.2.2.2.2⟩) (fun r U U' V V' h1 hal h2 h => Got.mv r U U' V V' h1 hal h2 h) ?_
  intro p e s m args below meth c s₁ X0 hexec hbytes hml hret hlk hnm hown hh0 W hP
  obtain ⟨rfl, hB, f1, f2, hA, s1, hz, l0, l2, hp⟩ := hP
  have c1 : Steps p.tables e below (s₁.setTop (entryFrame m #[.ref a, .ref b] 2)) (s₁.setTop (mkF m 0 #[.val (.ref a), .val (.ref b)] [])) := entry rfl
  have c2 : Steps p.tables e below (s₁.setTop (entryFrame m #[.ref a, .ref b] 2)) (s₁.setTop (mkF m 6 #[.val (.ref a), .val (.ref b)] [.null, .int (Int32.ofNat A.slots.size), .int 0, .ref b, .ref a])) := c1.trans (by
    refine XS.aloadN X0.here hexec rfl (hb hbytes d0) rfl rfl ?_
    refine XS.aloadN X0.here hexec rfl (hb hbytes d1) rfl rfl ?_
    refine iconstV X0.here hexec rfl 0 (hb hbytes d2) (by decide) ?_
    refine XS.aloadN X0.here hexec rfl (hb hbytes d3) rfl rfl ?_
    refine X0.alen hexec (hA.1.mv X0.warmed.alike hh0) rfl rfl (hb hbytes d4) ?_
    refine XS.aconstNull X0.here hexec rfl (hb hbytes d5) ?_
    exact Steps.refl _)
  obtain ⟨v3, T3, X3, E3, g3⟩ := X0.callN hexec (New4.law l a D fV fC b A z 0 A.slots.size) rfl hown (wks W (initW "java/lang/String" 27 New4.yN)) (W New4.tab (by simp only [site, List.mem_cons, List.mem_append, true_or, or_true])) (W := 0) (Nat.le_of_ble_eq_true rfl) (Nat.le_of_ble_eq_true rfl) (Nat.le_refl _) (by show 0 + A.slots.size ≤ A.slots.size; omega) (g := (mkF m 6 #[.val (.ref a), .val (.ref b)] [.null, .int (Int32.ofNat A.slots.size), .int (Int32.ofNat 0), .ref b, .ref a])) rfl (by rw [hml]; rfl) c2 (argsL := [.ref b, .int (Int32.ofNat 0), .int (Int32.ofNat A.slots.size), .null]) (rest := []) rfl rfl (by show 2 * 0 + 0 ≤ _; decide) (hb hbytes d6) (⟨rfl, hB.mv X0.warmed.alike hh0, f1.al X0.warmed.alike, f2.al X0.warmed.alike, hA.mv X0.warmed.alike hh0, s1.there X0.warmed.alike hh0, hz, l0, by omega, l2, fun i hi => by rw [Nat.zero_add]; exact hp i hi⟩)
  have e0 := Got.mv _ s₁ s _ _ hh0.symm (Vm.Alike.refl _) rfl E3
  obtain rfl := e0.1
  have c4 : Steps p.tables e below (s₁.setTop (entryFrame m #[.ref a, .ref b] 2)) (T3.setTop (mkF m 9 #[.val (.ref a), .val (.ref b)] [])) := g3
  exact ⟨T3, none, _, _, _, X3, by simp, rfl, by omega, (fun _ => rfl), e0, fun fs hl => c4.trans (X3.returnOut hexec hret (hb hbytes d9) hl)⟩
theorem pays {l : Launch} {R : Room} {p : Program} {e : Env} {below : List Frame} {s : State} {sargs : Array Value} {len W : Nat} (a : Addr) (D : Cell) (fV fC : Field) (b : Addr) (A : Cell) (z : Int32) (htab : tab.before sargs s = true) (hfr : 4 ≤ R.frames) (hlo : W + 65 ≤ R.locals) :
    Back l R p e below s sargs yN len W (fun A₁ a₁ => A₁.cells + 1 ≤ R.cells ∧ A₁.slots + A.slots.size ≤ R.slots ∧ P a D fV fC b A z a₁ A₁.U) (fun A₁ _ v₁ B₁ => E a D fV fC A v₁ A₁.U B₁.U ∧ B₁.locs = A₁.locs ++ [⟨a, fC.slot⟩, ⟨a, fV.slot⟩] ∧ B₁.cells = A₁.cells + 1 ∧ B₁.slots = A₁.slots + A.slots.size) :=
  (law l a D fV fC b A z).pays htab hfr (by omega)
end New1
/-- the byte, read back as charAt reads it, is the char -/
theorem lo8_mask {x : Int32} (h0 : ¬ x < 0) (h1 : ¬ 255 < x) : lo8 x &&& 255 = x := by
  have t : ∀ k : Fin 256, lo8 (Int32.ofNat k.val) &&& 255 = Int32.ofNat k.val := by decide +kernel
  rw [Int32.lt_iff_toInt_lt] at h0 h1
  have e0 : (0 : Int32).toInt = 0 := rfl
  have e1 : (255 : Int32).toInt = 255 := rfl
  obtain ⟨k, hk⟩ : ∃ k : Nat, x.toInt = k := ⟨x.toInt.toNat, by omega⟩
  have hx : x = Int32.ofNat k := Int32.toInt_inj.mp (by rw [hk, Int32.toInt_ofNat_small (by omega)])
  rw [hx]
  exact t ⟨k, by omega⟩
end StrChars
namespace StrChars.Road
open Jvm Sem ClassFile Op Lib Jvm.Stand Jvm.Free Jvm.Free.XT
open Jvm.Lib.Cold (StaticIs)
abbrev ST : String := "java/lang/String"
/-- every table word that New1's law asks, flat -/
abbrev words : List Jvm.Cond := [.code New1.yN New1.yB 2 none, .initialized ST, .methodLink ST 27 New4.yN, .instanceMethod New4.yN,
  .code New4.yN New4.yB 6 none, .fieldLink ST 38 ST "COMPACT_STRINGS" "Z", .laysFinal ST ST "value" "[B", .fieldLink ST 9 ST "value" "[B", .laysFinal ST ST "coder" "B", .fieldLink ST 15 ST "coder" "B",
  .methodLink ST 1 Lib.objectInit, .instanceMethod Lib.objectInit, .code Lib.objectInit ⟨#[0xb1]⟩ 1 none, .methodLink ST 177 Cmp3.yN, .static Cmp3.yN, .methodLink ST 47 CodL.yN, .static CodL.yN,
  .code Cmp3.yN Cmp3.yB 6 (some (.array .byte)), .initialized U16, .arrayClass .byte, .methodLink U16 115 Cmp5.yN, .static Cmp5.yN, .code Cmp5.yN Cmp5.yB 7 (some .int), .code CodL.yN CodL.yB 2 (some .byte)]
theorem tab_of {a : Array Value} {s : State} (h : ∀ w ∈ words, w.before a s = true) : New1.tab.before a s = true := by
  have h5 : Cmp5.tab.before a s = true := unparts (wk h (.code Cmp5.yN Cmp5.yB 7 (some .int))) (wks h (.initialized Cmp5.yN.cls :: Cmp5.site))
  have hc : CodL.tab.before a s = true := unparts (wk h (.code CodL.yN CodL.yB 2 (some .byte))) (wks h (.initialized CodL.yN.cls :: CodL.site))
  have q5 : ∀ w ∈ Cmp5.tab :: words, w.before a s = true := fun w hw => (List.mem_cons.mp hw).elim (fun e => e ▸ h5) (h w)
  have h3 : Cmp3.tab.before a s = true := unparts (wk q5 (.code Cmp3.yN Cmp3.yB 6 (some (.array .byte)))) (wks q5 (.initialized Cmp3.yN.cls :: Cmp3.site))
  have q3 : ∀ w ∈ Cmp3.tab :: CodL.tab :: words, w.before a s = true := fun w hw => (List.mem_cons.mp hw).elim (fun e => e ▸ h3) fun hw => (List.mem_cons.mp hw).elim (fun e => e ▸ hc) (h w)
  have h4 : New4.tab.before a s = true := unparts (wk q3 (.code New4.yN New4.yB 6 none)) (wks q3 (.initialized New4.yN.cls :: New4.site))
  have q4 : ∀ w ∈ New4.tab :: words, w.before a s = true := fun w hw => (List.mem_cons.mp hw).elim (fun e => e ▸ h4) (h w)
  exact unparts (wk q4 (.code New1.yN New1.yB 2 none)) (wks q4 (.initialized New1.yN.cls :: New1.site))
/-- the words ride from the start Z to the walk's own state -/
theorem moved {Z s : State} {a0 args : Array Value} (hZ : Z.Warmed39 s.vm) (hw : ∀ d ∈ words, d.before a0 Z = true) : ∀ d ∈ words, d.before args s = true := fun d hd => by
  have q := hw d hd
  have t : ∀ d ∈ words, d = .arrayClass .byte ∨ (d.onTables && d.keepsFace) = true := by decide +kernel
  rcases t d hd with rfl | t
  · exact RoadKit.mvA hZ q
  · exact RoadKit.mv hZ q t
/-- WHAT COMES BACK, over the tables of the start Z: h the heap at the call, h' behind it -/
def Q (Z : State) (x : Addr) (A : Cell) (h : Heap) (v : Option Value) (h' : Heap) (L : List Loc) : Prop := v = none ∧ (∀ y ∈ L, y.base = x) ∧ RoadKit.Keep h h' [x] ∧ h'.size = h.size + 1 ∧ RoadKit.Exa Z h' x ST ∧ RoadKit.Fld Z h' x ST "value" "[B" (.ref h.size) ∧ RoadKit.Fld Z h' x ST "coder" "B" (.int 0) ∧
  (∃ V : Cell, RoadKit.Arr Z h' h.size V .byte ∧ V.vm = .none ∧ Z.vm.findClass "[B" = some V.cls ∧ V.slots.size = A.slots.size ∧ ∀ j, j < A.slots.size → V.slots[j]? = some (.int (lo8 (cv A j)))) ∧
  ∀ (O n d : String) (w : Value), RoadKit.Fld Z h x O n d w → RoadKit.slotOf Z O n d ≠ RoadKit.slotOf Z ST "value" "[B" → RoadKit.slotOf Z O n d ≠ RoadKit.slotOf Z ST "coder" "B" → RoadKit.Fld Z h' x O n d w
/-- **new String(chars) AT A CALL, IN THE ROAD'S FORM**: for specialBack behind newO: x the fresh String, b the char[] with the cell A -/
theorem back {p : Program} {l : Launch} {e : Env} {R : Room} {s : State} {args : Array Value} {below : List Frame} {len W : Nat} {Z : State} {a0 : Array Value} {h : Heap} (hZ : Z.Warmed39 s.vm) (hw : ∀ d ∈ words, d.before a0 Z = true) {kI : Nat} (wi : (Jvm.Cond.instantiable ST kI).before a0 Z = true)
    {x b : Addr} {A : Cell} {z : Int32} {v0 c0 : Value} (E : RoadKit.Exa Z h x ST) (V : RoadKit.Fld Z h x ST "value" "[B" v0) (C : RoadKit.Fld Z h x ST "coder" "B" c0) (K : RoadKit.Arr Z h b A .char) (hty : Typed .char A) (S : RoadKit.Sta Z h ST "COMPACT_STRINGS" "Z" (.int z)) (hz : ¬ z = 0)
    (l0 : 0 < A.slots.size) (l2 : A.slots.size ≤ 536870912) (hp : ∀ i, i < A.slots.size → ¬ 255 < cv A i) (hfr : 4 ≤ R.frames) (hlo : W + 65 ≤ R.locals) :
    Back l R p e below s args New1.yN len W (fun P a => a = #[.ref x, .ref b] ∧ P.U.heap = h ∧ P.cells + 1 ≤ R.cells ∧ P.slots + A.slots.size ≤ R.slots)
      (fun P _ v B => ∃ L, Q Z x A h v B.U.heap L ∧ B.locs = P.locs ++ L ∧ B.cells = P.cells + 1 ∧ B.slots = P.slots + A.slots.size) := by
  intro m meth c P g ig mk a X hg hsize hdg hW hn hp'
  obtain ⟨rfl, rfl, r1, r2⟩ := hp'
  have al : Z.vm.Alike P.U.vm := hZ.alike.trans X.warmed.alike
  obtain ⟨D, cfV, kV, iV, fV, hD, gV, stV, knV, obV, asV, slV⟩ := id V
  obtain ⟨D', cfC, kC, iC, fC, hD', gC, stC, -, -, asC, slC⟩ := id C
  cases hD.symm.trans hD'
  obtain ⟨D2, kD, e1, e2, e3, e4, e5⟩ := id E
  cases hD.symm.trans e1
  obtain ⟨c2, k2, i1, i2, i3, -⟩ := Cond.instantiable_spec wi
  cases e2.symm.trans i1
  cases e3.symm.trans i2
  obtain ⟨kU, u1, u2⟩ := al.2.2 _ _ e3
  have hB : Blank ST x D P.U := ⟨hD, ⟨knV, fun q hq => by rw [hq] at obV; cases obV⟩, by rw [al.findClass]; exact e2, kU, u1, by rw [u2]; exact i3, by rw [u2]; exact e5 i3⟩
  have F1 : Found ST "value" "[B" fV P.U := ⟨SBG.found_only al ⟨cfV, kV, iV, gV⟩, stV⟩
  have F2 : Found ST "coder" "B" fC P.U := ⟨SBG.found_only al ⟨cfC, kC, iC, gC⟩, stC⟩
  have hA : Ch b A P.U := ⟨⟨K.1, State.isArrayOf_alike al K.2.1, K.2.2, by omega⟩, hty⟩
  have hS : StaticIs P.U ST "COMPACT_STRINGS" "Z" (.int z) := by
    obtain ⟨cfS, iS, kS, fS, st, cS, t1, t2, t3, t4, t5, t6, t7⟩ := S
    exact StaticIs.there (s := { Z with heap := P.U.heap }) ⟨cfS, iS, kS, fS, st, cS, t1, t2, t3, t4, t5, (fun q => by rw [q] at t6; cases t6), t7⟩ al rfl
  obtain ⟨v, B, X', ⟨⟨hv, E', V', q1, q2, q3, q4, q5, q6, q7, q8, q9, q10, q11⟩, hl, hc, hs⟩, st⟩ := New1.pays x D fV fC b A z (tab_of (moved hZ hw)) hfr hlo m meth c P g ig mk _ X hg hsize hdg hW hn ⟨r1, r2, rfl, hB, F1, F2, hA, hS, hz, l0, l2, hp⟩
  have al' : Z.vm.Alike B.U.vm := hZ.alike.trans X'.warmed.alike
  have hsz : E'.slots.size = D.slots.size := by
    obtain ⟨-, -, -, kB, w1, w2, w3⟩ := q1
    obtain ⟨kB', y1, y2⟩ := al'.2.2 _ _ e3
    rw [q2.2.1] at w1
    cases w1.symm.trans y1
    rw [w3, e5 i3, y2]
  refine ⟨v, B, X', ⟨_, ⟨hv, ?_, ⟨by omega, fun y cy hy hn' => q10 y cy (by simpa using hn') hy, fun y cy hy => ?_⟩, q11, ⟨E', _, q1.1, by rw [q2.2.1]; exact e2, by rw [q2.2.1]; exact e3, by rw [q2.1]; exact obV, fun _ => by rw [hsz]; exact e5 i3⟩,
    ⟨E', cfV, kV, iV, fV, q1.1, gV, stV, by rw [q2.1]; exact knV, by rw [q2.1]; exact obV, by rw [q2.2.1]; exact asV, q3⟩, ⟨E', cfC, kC, iC, fC, q1.1, gC, stC, by rw [q2.1]; exact knV, by rw [q2.1]; exact obV, by rw [q2.2.1]; exact asC, q4⟩,
    ⟨V', ⟨q5.1, State.isArrayOf_alike al'.symm q5.2.1, q5.2.2.1⟩, q6, by rw [← al'.findClass]; exact q7, q8, fun j hj => by have := q9 j hj; rwa [Nat.zero_add] at this⟩, fun O n d w F n1 n2 => ?_⟩, hl, hc, hs⟩, st⟩
  · intro y hy
    simp only [List.mem_cons, List.not_mem_nil, or_false] at hy
    rcases hy with rfl | rfl <;> rfl
  · by_cases q : y = x
    · subst q
      cases hD.symm.trans hy
      exact ⟨E', q1.1, q2.2.1, q2.1, hsz⟩
    · exact ⟨cy, q10 y cy q hy, rfl, rfl, rfl⟩
  · obtain ⟨D3, cf, k, i, f, g1, g2, g3, g4, g5, g6, g7⟩ := F
    cases hD.symm.trans g1
    simp only [RoadKit.slotOf, g2, gV, gC, Option.map_some, Option.getD_some] at n1 n2
    exact ⟨E', cf, k, i, f, q1.1, g2, g3, by rw [q2.1]; exact g4, by rw [q2.1]; exact g5, by rw [q2.2.1]; exact g6, by rw [q2.2.2 f.slot (by simp [n1, n2])]; exact g7⟩
end StrChars.Road
namespace StrChars.Road
open Jvm Sem ClassFile Op Lib Jvm.Stand Jvm.Free Jvm.Free.XT
/-- WHAT COMES BACK, the byte[] as a list of values -/
def QA (Z : State) (x : Addr) (zn : Int32) (cs : List Int32) (h : Heap) (v : Option Value) (h' : Heap) (L : List Loc) : Prop := v = none ∧ (∀ y ∈ L, y.base = x) ∧ RoadKit.Keep h h' [x] ∧ h'.size = h.size + 1 ∧ RoadKit.Exa Z h' x ST ∧ RoadKit.Fld Z h' x ST "value" "[B" (.ref h.size) ∧ RoadKit.Fld Z h' x ST "coder" "B" (.int 0) ∧
  (∃ kb, Z.vm.findClass "[B" = some kb ∧ RoadKit.Arv Z h' h.size kb .byte zn (cs.map fun c => .int (lo8 c)) (.int 0)) ∧
  ∀ (O n d : String) (w : Value), RoadKit.Fld Z h x O n d w → RoadKit.slotOf Z O n d ≠ RoadKit.slotOf Z ST "value" "[B" → RoadKit.slotOf Z O n d ≠ RoadKit.slotOf Z ST "coder" "B" → RoadKit.Fld Z h' x O n d w
/-- **new String(chars) AT A CALL, THE ARRAYS AS LISTS**: the char[] at b holds cs, not empty, no char above 255 -/
theorem backArv {p : Program} {l : Launch} {e : Env} {R : Room} {s : State} {args : Array Value} {below : List Frame} {len W : Nat} {Z : State} {a0 : Array Value} {h : Heap} (hZ : Z.Warmed39 s.vm) (hw : ∀ d ∈ words, d.before a0 Z = true) {kI : Nat} (wi : (Jvm.Cond.instantiable ST kI).before a0 Z = true)
    {x b : Addr} {k : ClassId} {zn z : Int32} {cs : List Int32} {dv v0 c0 : Value} (E : RoadKit.Exa Z h x ST) (V : RoadKit.Fld Z h x ST "value" "[B" v0) (C : RoadKit.Fld Z h x ST "coder" "B" c0) (K : RoadKit.Arv Z h b k .char zn (cs.map Value.int) dv) (S : RoadKit.Sta Z h ST "COMPACT_STRINGS" "Z" (.int z)) (hz : ¬ z = 0)
    (hlen : zn.toNatClampNeg = cs.length) (h0 : 0 < cs.length) (hbig : cs.length ≤ 536870912) (hall : ∀ c ∈ cs, ¬ 255 < c) (hfr : 4 ≤ R.frames) (hlo : W + 65 ≤ R.locals) :
    Back l R p e below s args New1.yN len W (fun P a => a = #[.ref x, .ref b] ∧ P.U.heap = h ∧ P.cells + 1 ≤ R.cells ∧ P.slots + cs.length ≤ R.slots)
      (fun P _ v B => ∃ L, QA Z x zn cs h v B.U.heap L ∧ B.locs = P.locs ++ L ∧ B.cells = P.cells + 1 ∧ B.slots = P.slots + cs.length) := by
  obtain ⟨A, K1, K2, K3, K4, K5, K6⟩ := K
  have e : A.slots.size = cs.length := K3.trans hlen
  have hat : ∀ (i : Nat) (hi : i < cs.length), A.slots[i]? = some (.int cs[i]) := fun i hi => by rw [K5 i (by omega)]; simp [List.getD_eq_getElem?_getD, hi]
  have hcv : ∀ (i : Nat) (hi : i < cs.length), cv A i = cs[i] := fun i hi => by unfold cv; rw [hat i hi]
  have hty : Typed .char A := fun i v hv => by
    have hi : i < A.slots.size := (Array.getElem?_eq_some_iff.mp hv).1
    have q := K5 i hi
    rw [hv] at q
    rw [Option.some.inj q]
    exact K6 i hi
  refine Back.mono (back hZ hw wi E V C K1 hty S hz (by omega) (by omega) (fun i hi => by rw [hcv i (by omega)]; exact hall _ (List.getElem_mem _)) hfr hlo) (fun P a hp => ⟨hp.1, hp.2.1, hp.2.2.1, by rw [e]; exact hp.2.2.2⟩) (fun P a v B hp hq => ?_)
  obtain ⟨L, ⟨q1, q2, q3, q4, q5, q6, q7, ⟨V', v1, v2, v3, v4, v5⟩, q9⟩, hl, hc, hs⟩ := hq
  refine ⟨L, ⟨q1, q2, q3, q4, q5, q6, q7, ⟨V'.cls, v3, V', v1, rfl, by rw [v4, e, hlen], K4, fun i hi => ?_, fun i hi => ?_⟩, q9⟩, hl, hc, by rw [hs, e]⟩
  · have hi' : i < cs.length := by omega
    rw [v5 i (by omega), hcv i hi']; simp [List.getD_eq_getElem?_getD, hi']
  · have hi' : i < cs.length := by omega
    simp only [List.getD_eq_getElem?_getD, List.getElem?_map, List.getElem?_eq_getElem hi', Option.map_some, Option.getD_some]
    exact fits_lo8 _
end StrChars.Road
namespace StrChars.Road
open Jvm Sem ClassFile Op Lib Jvm.Stand Jvm.Free Jvm.Free.XT
/-- WHAT COMES BACK, in the writer's own shape -/
def QV (Z : State) (x : Addr) (N : Int32) (bs : List Int32) (h : Heap) (n0 : Nat) (v : Option Value) (h' : Heap) (L : List Loc) : Prop := v = none ∧ RoadKit.Fr n0 L ∧ RoadKit.Keep h h' [x] ∧ RoadKit.Exa Z h' x ST ∧ RoadKit.Fld Z h' x ST "coder" "B" (.int 0) ∧
  ∃ (t : Addr) (kb : ClassId), n0 ≤ t ∧ h.size ≤ t ∧ ¬ t = x ∧ RoadKit.Fld Z h' x ST "value" "[B" (.ref t) ∧ RoadKit.Arv Z h' t kb .byte N (bs.map Value.int) (.int 0)
/-- **new String(chars) AT A CALL, FOR THE WRITER**: a char[] of n known ints, each 0 to 255 -/
theorem backV {p : Program} {l : Launch} {e : Env} {R : Room} {s : State} {args : Array Value} {below : List Frame} {len W : Nat} {Z : State} {a0 : Array Value} {h : Heap} (hZ : Z.Warmed39 s.vm) (hw : ∀ d ∈ words, d.before a0 Z = true) {kI : Nat} (wi : (Jvm.Cond.instantiable ST kI).before a0 Z = true)
    {x b : Addr} {kC : ClassId} {cs bs : List Int32} {d v0 c0 : Value} {z N : Int32} {n n0 : Nat} (hx0 : n0 ≤ x) (hh0 : n0 ≤ h.size) (E : RoadKit.Exa Z h x ST) (V : RoadKit.Fld Z h x ST "value" "[B" v0) (C : RoadKit.Fld Z h x ST "coder" "B" c0) (K : RoadKit.Arv Z h b kC .char N (cs.map Value.int) d) (S : RoadKit.Sta Z h ST "COMPACT_STRINGS" "Z" (.int z)) (hz : ¬ z = 0)
    (hn : cs.length = n) (hN : N = Int32.ofNat n) (l0 : 0 < n) (l2 : n ≤ 4000) (hp : ∀ c ∈ cs, ¬ c < 0 ∧ ¬ (255 : Int32) < c) (hb : bs = cs.map (fun c => c.toInt8.toInt32)) (hfr : 4 ≤ R.frames) (hlo : W + 65 ≤ R.locals) :
    Back l R p e below s args (⟨"java/lang/String", "<init>", "([C)V"⟩ : MethodName) len W (fun P a => a = #[.ref x, .ref b] ∧ P.U.heap = h ∧ P.cells + 1 ≤ R.cells ∧ P.slots + n ≤ R.slots)
      (fun P _ v B => ∃ L, QV Z x N bs h n0 v B.U.heap L ∧ B.locs = P.locs ++ L ∧ B.cells = P.cells + 1 ∧ B.slots = P.slots + n) := by
  subst hn hN hb
  refine Back.mono (backArv hZ hw wi E V C K S hz (n32 (by omega)) l0 (by omega) (fun c hc => (hp c hc).2) hfr hlo) (fun P a hp => hp) (fun P a v B hp hq => ?_)
  obtain ⟨L, ⟨q1, q2, q3, q4, q5, q6, q7, ⟨kb, v1, v2⟩, q9⟩, hl, hc, hs⟩ := hq
  exact ⟨L, ⟨q1, fun y hy => by rw [q2 y hy]; exact hx0, q3, q5, q7, h.size, kb, hh0, Nat.le_refl _, Nat.ne_of_gt E.lt, q6, by rw [List.map_map]; exact v2⟩, hl, hc, hs⟩
end StrChars.Road
namespace StrChars
open Jvm Sem ClassFile Op Lib Jvm.Stand Jvm.Free.XT Jvm.Free.ALB Jvm.Free.JM Jvm.Free
open Jvm.Lib.Cold (StaticIs)
def hi8 (x : Int32) : Int32 := lo8 (x >>> ((8 : Int32) &&& 31))
/-- what StringUTF16.getChar makes of two bytes -/
def pairCh (u v : Int32) : Int32 := (((u &&& 255) <<< ((0 : Int32) &&& 31)) ||| ((v &&& 255) <<< ((8 : Int32) &&& 31))).toUInt32.toUInt16.toUInt32.toInt32
theorem shr0 (c : Int32) : c >>> ((0 : Int32) &&& 31) = c := by
  have e : ((0 : Int32) &&& 31) = 0 := by decide
  rw [e]
  apply Int32.toBitVec_inj.mp
  rw [Int32.toBitVec_shiftRight]
  have e1 : ((0 : Int32).toBitVec.smod 32) = 0#32 := by decide
  rw [e1, BitVec.sshiftRight_eq']
  exact BitVec.sshiftRight_zero
theorem lo8_and (x : Int32) : (lo8 x &&& 255).toBitVec.toNat = x.toBitVec.toNat % 256 := by
  have h : (lo8 x).toBitVec = (x.toBitVec.signExtend 8).signExtend 32 := by rw [lo8, Int8.toBitVec_toInt32, Int32.toBitVec_toInt8]
  rw [Int32.toBitVec_and, BitVec.toNat_and, h]
  have e : ((x.toBitVec.signExtend 8).signExtend 32).toNat % 256 = x.toBitVec.toNat % 256 := by
    rw [BitVec.toNat_signExtend]
    have hlt := x.toBitVec.isLt
    simp only [BitVec.toNat_setWidth, BitVec.toNat_signExtend]
    split <;> split <;> omega
  rw [← e]
  exact Nat.and_two_pow_sub_one_eq_mod _ 8
theorem pair_says {c : Int32} (h0 : ¬ c < 0) (h1 : ¬ 65535 < c) : pairCh (lo8 c) (hi8 c) = c := by
  rw [Int32.lt_iff_toInt_lt] at h0 h1
  have e0 : (0 : Int32).toInt = 0 := rfl
  have e1 : (65535 : Int32).toInt = 65535 := rfl
  have hc : c.toInt = c.toBitVec.toNat := by
    have := c.toBitVec.isLt
    have e : c.toInt = c.toBitVec.toInt := rfl
    rw [e] at h0 h1
    rw [e]
    rw [BitVec.toInt_eq_toNat_cond] at h0 h1 ⊢
    split at h0 <;> split <;> omega
  have hn : c.toBitVec.toNat < 65536 := by omega
  have a1 := lo8_and c
  have a2 : (hi8 c &&& 255).toBitVec.toNat = c.toBitVec.toNat / 256 := by
    rw [hi8, lo8_and]
    have e : ((8 : Int32) &&& 31) = 8 := by decide
    rw [e, Int32.toBitVec_shiftRight]
    have e2 : ((8 : Int32).toBitVec.smod 32) = 8#32 := by decide
    rw [e2, BitVec.sshiftRight_eq', BitVec.toNat_sshiftRight_of_msb_false (by rw [BitVec.msb_eq_false_iff_two_mul_lt]; omega)]
    show c.toBitVec.toNat >>> 8 % 256 = _
    rw [Nat.shiftRight_eq_div_pow]
    omega
  unfold pairCh
  apply Int32.toBitVec_inj.mp
  apply BitVec.eq_of_toNat_eq
  have f0 : ((0 : Int32) &&& 31) = 0 := by decide
  have f8 : ((8 : Int32) &&& 31) = 8 := by decide
  rw [f0, f8]
  have g : (((lo8 c &&& 255) <<< (0 : Int32)) ||| ((hi8 c &&& 255) <<< (8 : Int32))).toBitVec.toNat = c.toBitVec.toNat := by
    rw [Int32.toBitVec_or, Int32.toBitVec_shiftLeft, Int32.toBitVec_shiftLeft]
    have s0 : ((0 : Int32).toBitVec.smod 32) = 0#32 := by decide
    have s8 : ((8 : Int32).toBitVec.smod 32) = 8#32 := by decide
    rw [s0, s8, BitVec.toNat_or]
    simp only [BitVec.shiftLeft_eq', BitVec.toNat_shiftLeft, a1, a2]
    show (c.toBitVec.toNat % 256) <<< 0 % 2 ^ 32 ||| (c.toBitVec.toNat / 256) <<< 8 % 2 ^ 32 = _
    rw [Nat.shiftLeft_zero, Nat.mod_eq_of_lt (show c.toBitVec.toNat % 256 < 2 ^ 32 by omega), Nat.mod_eq_of_lt (show (c.toBitVec.toNat / 256) <<< 8 < 2 ^ 32 by rw [Nat.shiftLeft_eq]; omega), Nat.or_comm, ← Nat.shiftLeft_add_eq_or_of_lt (by omega), Nat.shiftLeft_eq]
    omega
  show BitVec.toNat (((((lo8 c &&& 255) <<< (0 : Int32)) ||| ((hi8 c &&& 255) <<< (8 : Int32))).toBitVec.setWidth 16).setWidth 32) = _
  rw [BitVec.toNat_setWidth, BitVec.toNat_setWidth, g]
  omega
end StrChars
namespace StrChars
open Jvm Sem ClassFile Op Lib Jvm.Stand Jvm.Free.XT Jvm.Free.ALB Jvm.Free.JM Jvm.Free
open Jvm.Lib.Cold (StaticIs)
theorem shr1 {n : Nat} (h : 2 * n < 2 ^ 31) : Int32.ofNat (2 * n) >>> ((1 : Int32) &&& 31) = Int32.ofNat n := by
  have e : ((1 : Int32) &&& 31) = 1 := by decide
  rw [e]
  apply Int32.toBitVec_inj.mp
  rw [Int32.toBitVec_shiftRight]
  have e1 : ((1 : Int32).toBitVec.smod 32) = 1#32 := by decide
  have hm : (BitVec.ofNat 32 (2 * n)).toNat = 2 * n := by rw [BitVec.toNat_ofNat, Nat.mod_eq_of_lt (by omega)]
  rw [e1, BitVec.sshiftRight_eq']
  apply BitVec.eq_of_toNat_eq
  show ((BitVec.ofNat 32 (2 * n)).sshiftRight 1).toNat = (BitVec.ofNat 32 n).toNat
  rw [BitVec.toNat_sshiftRight_of_msb_false (by rw [BitVec.msb_eq_false_iff_two_mul_lt, hm]; omega), hm, BitVec.toNat_ofNat, Nat.shiftRight_eq_div_pow]
  omega
/-- charAt's cast of a byte read back -/
def chr8 (u : Int32) : Int32 := (u &&& 255).toUInt32.toUInt16.toUInt32.toInt32
theorem chr8_lo8 {c : Int32} (h0 : ¬ c < 0) (h1 : ¬ 255 < c) : chr8 (lo8 c) = c := by
  have t : ∀ k : Fin 256, (Int32.ofNat k.val).toUInt32.toUInt16.toUInt32.toInt32 = Int32.ofNat k.val := by decide +kernel
  unfold chr8
  rw [lo8_mask h0 h1]
  rw [Int32.lt_iff_toInt_lt] at h0 h1
  have e0 : (0 : Int32).toInt = 0 := rfl
  have e1 : (255 : Int32).toInt = 255 := rfl
  obtain ⟨k, hk⟩ : ∃ k : Nat, c.toInt = k := ⟨c.toInt.toNat, by omega⟩
  have hx : c = Int32.ofNat k := Int32.toInt_inj.mp (by rw [hk, Int32.toInt_ofNat_small (by omega)])
  rw [hx]
  exact t ⟨k, by omega⟩
theorem narrow_ch {c : Int32} (h0 : ¬ c < 0) (h1 : ¬ 65535 < c) : narrow .char (.int c) = .int c := by
  have q : narrow .char (.int (pairCh (lo8 c) (hi8 c))) = .int (pairCh (lo8 c) (hi8 c)) := narrow_c _
  rwa [pair_says h0 h1] at q
/-- the array's cell V codes the n chars f 0 .. f (n - 1) by the coder cd, as the JDK does: coder 1 just where some char is above 255 -/
def Cod (cd : Int32) (n : Nat) (f : Nat → Int32) (V : Cell) : Prop := (cd = 0 ∧ V.slots.size = n ∧ ∀ j, j < n → V.slots[j]? = some (.int (lo8 (f j))) ∧ ¬ 255 < f j) ∨ (cd = 1 ∧ V.slots.size = 2 * n ∧ (∀ j, j < n → V.slots[2 * j]? = some (.int (lo8 (f j))) ∧ V.slots[2 * j + 1]? = some (.int (hi8 (f j)))) ∧ ∃ j, j < n ∧ 255 < f j)
theorem Cod.cd {cd : Int32} {n : Nat} {f : Nat → Int32} {V : Cell} (h : Cod cd n f V) : cd = 0 ∨ cd = 1 := h.imp (fun q => q.1) fun q => q.1
theorem Cod.len {cd : Int32} {n : Nat} {f : Nat → Int32} {V : Cell} (h : Cod cd n f V) (hs : V.slots.size < 2 ^ 31) : Int32.ofNat V.slots.size >>> (cd &&& 31) = Int32.ofNat n := by
  rcases h with ⟨rfl, h, -⟩ | ⟨rfl, h, -⟩
  · rw [shr0, h]
  · rw [h, shr1 (by omega)]
/-- **x is a String of the n chars f 0 .. f (n - 1)**, Latin-1 or UTF-16; its array at t has the cell V -/
def Txt (x t : Addr) (V : Cell) (cd : Int32) (n : Nat) (f : Nat → Int32) (U : State) : Prop := Exact "java/lang/String" x U ∧ Has x "java/lang/String" "value" "[B" (.ref t) U ∧ Has x "java/lang/String" "coder" "B" (.int cd) U ∧ XT.Arr .byte t V U ∧ Cod cd n f V ∧ ∀ j, j < n → ¬ f j < 0 ∧ ¬ 65535 < f j
theorem Txt.mv {x t : Addr} {V : Cell} {cd : Int32} {n : Nat} {f : Nat → Int32} {U U' : State} (h : Txt x t V cd n f U) (hal : U.vm.Alike U'.vm) (hh : U'.heap = U.heap) : Txt x t V cd n f U' := ⟨h.1.mv hal hh, h.2.1.mv hal hh, h.2.2.1.mv hal hh, h.2.2.2.1.mv hal hh, h.2.2.2.2⟩
namespace Cdr
def yN : MethodName := ⟨"java/lang/String", "coder", "()B"⟩
abbrev yB : ByteArray := jdk_42_method_152_code
theorem d0 : decode yB 0 = .ok (.getstatic 38, 3) := by decide +kernel
theorem d3 : decode yB 3 = .ok (.ifCond (.eq) 10, 3) := by decide +kernel
theorem d6 : decode yB 6 = .ok (.aload_n 0, 1) := by decide +kernel
theorem d7 : decode yB 7 = .ok (.getfield 15, 3) := by decide +kernel
theorem d10 : decode yB 10 = .ok (.goto 4, 3) := by decide +kernel
theorem d14 : decode yB 14 = .ok (.ireturn, 1) := by decide +kernel
def site : List Cond := [.fieldLink "java/lang/String" 38 "java/lang/String" "COMPACT_STRINGS" "Z", .fieldLink "java/lang/String" 15 "java/lang/String" "coder" "B"]
def tab : Cond := tabOf yN yB 1 (some .byte) site
def P (x : Addr) (cd z : Int32) (args : Array Value) (s : State) : Prop := args = #[.ref x] ∧ Has x "java/lang/String" "coder" "B" (.int cd) s ∧ (cd = 0 ∨ cd = 1) ∧ StaticIs s "java/lang/String" "COMPACT_STRINGS" "Z" (.int z) ∧ ¬ z = 0
def E (cd : Int32) (r : Option Value) (s u : State) : Prop := XT.PureE (some (.int cd)) r s u
theorem law (l : Launch) (x : Addr) (cd z : Int32) : Law l yN 1 0 0 0 yB 1 (some .byte) site (P x cd z) (E cd) [] 0 0 := by
  refine Law.of_walk (plainFor_of_name (by decide +kernel)) (by decide +kernel) (by decide +kernel) (by decide) (fun _ _ h => by rw [h.1]; rfl) (fun _ U U' hal hh h => ⟨h.1, h.2.1.mv hal hh, h.2.2.1, h.2.2.2.1.there hal hh, h.2.2.2.2⟩) (fun r U U' V V' h1 hal h2 h => XT.PureE.mv r U U' V V' h1 hal h2 h) ?_
  intro p e s m args below meth c s₁ X0 hexec hbytes hml hret hlk hnm hown hh0 W hP
  obtain ⟨rfl, hx, hc, s1, hz⟩ := hP
  have c1 : Steps p.tables e below (s₁.setTop (entryFrame m #[.ref x] 1)) (s₁.setTop (mkF m 0 #[.val (.ref x)] [])) := entry rfl
  obtain ⟨T2, X2, q2, st2⟩ := X0.sget hexec hown (wk W (.fieldLink "java/lang/String" 38 "java/lang/String" "COMPACT_STRINGS" "Z")) s1 (fun _ _ h => by rw [hh0]; exact h) (g := (mkF m 0 #[.val (.ref x)] [])) rfl (hb hbytes d0)
  have hh2 := q2.trans hh0
  have c3 : Steps p.tables e below (s₁.setTop (entryFrame m #[.ref x] 1)) (T2.setTop (mkF m 7 #[.val (.ref x)] [.ref x])) := (c1.trans (st2 _ (Steps.refl _))).trans (by
    refine XS.ifNo X2.here hexec rfl (hb hbytes d3) rfl (i0_eq_f hz) ?_
    refine XS.aloadN X2.here hexec rfl (hb hbytes d6) rfl rfl ?_
    exact Steps.refl _)
  obtain ⟨T4, X4, q4, st4⟩ := X2.hget hexec hown (wk W (.fieldLink "java/lang/String" 15 "java/lang/String" "coder" "B")) (hx.mv X2.warmed.alike hh2) (g := (mkF m 7 #[.val (.ref x)] [.ref x])) rfl (rest := []) rfl (hb hbytes d7)
  have c5 : Steps p.tables e below (s₁.setTop (entryFrame m #[.ref x] 1)) (T4.setTop (mkF m 14 #[.val (.ref x)] [.int cd])) := (c3.trans (st4 _ (Steps.refl _))).trans (by
    refine XS.goto X4.here hexec rfl (pc0 := 10) rfl (hb hbytes d10) (by decide) rfl ?_
    exact Steps.refl _)
  exact ⟨T4, some (.int cd), _, _, _, X4, rfl, rfl, rfl, (fun h => by cases h), ⟨rfl, q4.trans hh2⟩, fun fs hl => c5.trans (X4.ireturnOut hexec hret (by rcases hc with rfl | rfl <;> rfl) (Or.inr (Or.inr (Or.inl rfl))) (hb hbytes d14) hl)⟩
end Cdr
namespace Len
def yN : MethodName := ⟨"java/lang/String", "length", "()I"⟩
abbrev yB : ByteArray := jdk_42_method_54_code
theorem d0 : decode yB 0 = .ok (.aload_n 0, 1) := by decide +kernel
theorem d1 : decode yB 1 = .ok (.getfield 9, 3) := by decide +kernel
theorem d4 : decode yB 4 = .ok (.arraylength, 1) := by decide +kernel
theorem d5 : decode yB 5 = .ok (.aload_n 0, 1) := by decide +kernel
theorem d6 : decode yB 6 = .ok (.invokevirtual 335, 3) := by decide +kernel
theorem d9 : decode yB 9 = .ok (.ishr, 1) := by decide +kernel
theorem d10 : decode yB 10 = .ok (.ireturn, 1) := by decide +kernel
def site : List Cond := [.fieldLink "java/lang/String" 9 "java/lang/String" "value" "[B", Cdr.tab] ++ virtW "java/lang/String" 335 "java/lang/String" Cdr.yN Cdr.yN
def tab : Cond := tabOf yN yB 1 (some .int) site
def P (x t : Addr) (V : Cell) (cd : Int32) (n : Nat) (f : Nat → Int32) (z : Int32) (args : Array Value) (s : State) : Prop := args = #[.ref x] ∧ Txt x t V cd n f s ∧ StaticIs s "java/lang/String" "COMPACT_STRINGS" "Z" (.int z) ∧ ¬ z = 0
def E (n : Nat) (r : Option Value) (s u : State) : Prop := XT.PureE (some (.int (Int32.ofNat n))) r s u
/-- length() of a String of n chars, in either coding -/
theorem law (l : Launch) (x t : Addr) (V : Cell) (cd : Int32) (n : Nat) (f : Nat → Int32) (z : Int32) : Law l yN 1 0 1 13 yB 1 (some .int) site (P x t V cd n f z) (E n) [] 0 0 := by
  refine Law.of_walk (plainFor_of_name (by decide +kernel)) (by decide +kernel) (by decide +kernel) (by decide) (fun _ _ h => by rw [h.1]; rfl) (fun _ U U' hal hh h => ⟨h.1, h.2.1.mv hal hh, h.2.2.1.there hal hh, h.2.2.2⟩) (fun r U U' V V' h1 hal h2 h => XT.PureE.mv r U U' V V' h1 hal h2 h) ?_
  intro p e s m args below meth c s₁ X0 hexec hbytes hml hret hlk hnm hown hh0 W hP
  obtain ⟨rfl, hx, s1, hz⟩ := hP
  have v31 := hx.2.2.2.1.2.2.2
  have c1 : Steps p.tables e below (s₁.setTop (entryFrame m #[.ref x] 1)) (s₁.setTop (mkF m 1 #[.val (.ref x)] [.ref x])) := Steps.trans (entry rfl) (by
    show Steps p.tables e below (s₁.setTop (mkF m 0 #[.val (.ref x)] [])) _
    refine XS.aloadN X0.here hexec rfl (hb hbytes d0) rfl rfl ?_
    exact Steps.refl _)
  obtain ⟨T2, X2, q2, st2⟩ := X0.hget hexec hown (wk W (.fieldLink "java/lang/String" 9 "java/lang/String" "value" "[B")) (hx.mv X0.warmed.alike hh0).2.1 (g := (mkF m 1 #[.val (.ref x)] [.ref x])) rfl (rest := []) rfl (hb hbytes d1)
  have hh2 := q2.trans hh0
  have hx2 := hx.mv X2.warmed.alike hh2
  have c3 : Steps p.tables e below (s₁.setTop (entryFrame m #[.ref x] 1)) (T2.setTop (mkF m 6 #[.val (.ref x)] [.ref x, .int (Int32.ofNat V.slots.size)])) := (c1.trans (st2 _ (Steps.refl _))).trans (by
    refine X2.alen hexec hx2.2.2.2.1 rfl rfl (hb hbytes d4) ?_
    refine XS.aloadN X2.here hexec rfl (hb hbytes d5) rfl rfl ?_
    exact Steps.refl _)
  obtain ⟨v4, T4, X4, E4, g4⟩ := X2.callV hexec (Cdr.law l x cd z) hown (wks W (virtW "java/lang/String" 335 "java/lang/String" Cdr.yN Cdr.yN)) rfl (by decide) (wk W Cdr.tab) (W := 1) (Nat.le_of_ble_eq_true rfl) (Nat.le_of_ble_eq_true rfl) (Nat.le_refl _) (Nat.le_refl _) (hx2.1.fc X2.warmed.alike) hx2.1.is (g := (mkF m 6 #[.val (.ref x)] [.ref x, .int (Int32.ofNat V.slots.size)])) rfl (by rw [hml]; rfl) c3 (argsL := []) (rest := [.int (Int32.ofNat V.slots.size)]) rfl rfl (by show 2 * 0 + (1 + 0) ≤ _; decide) (hb hbytes d6) (⟨rfl, hx2.2.2.1, hx.2.2.2.2.1.cd, s1.there X2.warmed.alike hh2, hz⟩)
  obtain ⟨rfl, q4⟩ := E4
  have c5 : Steps p.tables e below (s₁.setTop (entryFrame m #[.ref x] 1)) (T4.setTop (mkF m 10 #[.val (.ref x)] [.int (Int32.ofNat V.slots.size >>> (cd &&& 31))])) := Steps.trans g4 (by
    refine ishr X4.here hexec rfl (hb hbytes d9) rfl ?_
    exact Steps.refl _)
  rw [hx.2.2.2.2.1.len v31] at c5
  exact ⟨T4, some (.int (Int32.ofNat n)), _, _, _, X4, rfl, rfl, rfl, (fun h => by cases h), ⟨rfl, q4.trans hh2⟩, fun fs hl => c5.trans (X4.ireturnOut hexec hret rfl (Or.inl rfl) (hb hbytes d10) hl)⟩
theorem pays {l : Launch} {R : Room} {p : Program} {e : Env} {below : List Frame} {s : State} {sargs : Array Value} {len W : Nat} (x t : Addr) (V : Cell) (cd : Int32) (n : Nat) (f : Nat → Int32) (z : Int32) (htab : tab.before sargs s = true) (hfr : 2 ≤ R.frames) (hlo : W + 25 ≤ R.locals) :
    Back l R p e below s sargs yN len W (fun A₁ a₁ => A₁.cells + 0 ≤ R.cells ∧ A₁.slots + 0 ≤ R.slots ∧ P x t V cd n f z a₁ A₁.U) (fun A₁ _ v₁ B₁ => E n v₁ A₁.U B₁.U ∧ B₁.locs = A₁.locs ++ [] ∧ B₁.cells = A₁.cells + 0 ∧ B₁.slots = A₁.slots + 0) :=
  (law l x t V cd n f z).pays htab hfr (by omega)
end Len
namespace IsL
def yN : MethodName := ⟨"java/lang/String", "isLatin1", "()Z"⟩
abbrev yB : ByteArray := jdk_42_method_154_code
theorem d0 : decode yB 0 = .ok (.getstatic 38, 3) := by decide +kernel
theorem d3 : decode yB 3 = .ok (.ifCond (.eq) 14, 3) := by decide +kernel
theorem d6 : decode yB 6 = .ok (.aload_n 0, 1) := by decide +kernel
theorem d7 : decode yB 7 = .ok (.getfield 15, 3) := by decide +kernel
theorem d10 : decode yB 10 = .ok (.ifCond (.ne) 7, 3) := by decide +kernel
theorem d13 : decode yB 13 = .ok (.iconst 1, 1) := by decide +kernel
theorem d14 : decode yB 14 = .ok (.goto 4, 3) := by decide +kernel
theorem d17 : decode yB 17 = .ok (.iconst 0, 1) := by decide +kernel
theorem d18 : decode yB 18 = .ok (.ireturn, 1) := by decide +kernel
def site : List Cond := [.fieldLink "java/lang/String" 38 "java/lang/String" "COMPACT_STRINGS" "Z", .fieldLink "java/lang/String" 15 "java/lang/String" "coder" "B"]
def tab : Cond := tabOf yN yB 1 (some .boolean) site
def P (x : Addr) (cd z : Int32) (args : Array Value) (s : State) : Prop := args = #[.ref x] ∧ Has x "java/lang/String" "coder" "B" (.int cd) s ∧ (cd = 0 ∨ cd = 1) ∧ StaticIs s "java/lang/String" "COMPACT_STRINGS" "Z" (.int z) ∧ ¬ z = 0
def E (cd : Int32) (r : Option Value) (s u : State) : Prop := XT.PureE (some (.int (1 - cd))) r s u
theorem law (l : Launch) (x : Addr) (cd z : Int32) : Law l yN 1 0 0 0 yB 1 (some .boolean) site (P x cd z) (E cd) [] 0 0 := by
  refine Law.of_walk (plainFor_of_name (by decide +kernel)) (by decide +kernel) (by decide +kernel) (by decide) (fun _ _ h => by rw [h.1]; rfl) (fun _ U U' hal hh h => ⟨h.1, h.2.1.mv hal hh, h.2.2.1, h.2.2.2.1.there hal hh, h.2.2.2.2⟩) (fun r U U' V V' h1 hal h2 h => XT.PureE.mv r U U' V V' h1 hal h2 h) ?_
  intro p e s m args below meth c s₁ X0 hexec hbytes hml hret hlk hnm hown hh0 W hP
  obtain ⟨rfl, hx, hc, s1, hz⟩ := hP
  have c1 : Steps p.tables e below (s₁.setTop (entryFrame m #[.ref x] 1)) (s₁.setTop (mkF m 0 #[.val (.ref x)] [])) := entry rfl
  obtain ⟨T2, X2, q2, st2⟩ := X0.sget hexec hown (wk W (.fieldLink "java/lang/String" 38 "java/lang/String" "COMPACT_STRINGS" "Z")) s1 (fun _ _ h => by rw [hh0]; exact h) (g := (mkF m 0 #[.val (.ref x)] [])) rfl (hb hbytes d0)
  have hh2 := q2.trans hh0
  have c3 : Steps p.tables e below (s₁.setTop (entryFrame m #[.ref x] 1)) (T2.setTop (mkF m 7 #[.val (.ref x)] [.ref x])) := (c1.trans (st2 _ (Steps.refl _))).trans (by
    refine XS.ifNo X2.here hexec rfl (hb hbytes d3) rfl (i0_eq_f hz) ?_
    refine XS.aloadN X2.here hexec rfl (hb hbytes d6) rfl rfl ?_
    exact Steps.refl _)
  obtain ⟨T4, X4, q4, st4⟩ := X2.hget hexec hown (wk W (.fieldLink "java/lang/String" 15 "java/lang/String" "coder" "B")) (hx.mv X2.warmed.alike hh2) (g := (mkF m 7 #[.val (.ref x)] [.ref x])) rfl (rest := []) rfl (hb hbytes d7)
  have c5 : Steps p.tables e below (s₁.setTop (entryFrame m #[.ref x] 1)) (T4.setTop (mkF m 10 #[.val (.ref x)] [.int cd])) := c3.trans (st4 _ (Steps.refl _))
  have c6 : Steps p.tables e below (s₁.setTop (entryFrame m #[.ref x] 1)) (T4.setTop (mkF m 18 #[.val (.ref x)] [.int (1 - cd)])) := by
    rcases hc with rfl | rfl
    · exact c5.trans (by
        refine XS.ifNo X4.here hexec rfl (hb hbytes d10) rfl (i0_ne_f rfl) ?_
        refine iconstV X4.here hexec rfl 1 (hb hbytes d13) (by decide) ?_
        refine XS.goto X4.here hexec rfl (pc0 := 14) rfl (hb hbytes d14) (by decide) rfl ?_
        exact Steps.refl _)
    · exact c5.trans (by
        refine XS.ifYes X4.here hexec rfl (pc0 := 10) rfl (hb hbytes d10) rfl (i0_ne_t (by decide)) (by decide) rfl ?_
        refine iconstV X4.here hexec rfl 0 (hb hbytes d17) (by decide) ?_
        exact Steps.refl _)
  exact ⟨T4, some (.int (1 - cd)), _, _, _, X4, rfl, rfl, rfl, (fun h => by cases h), ⟨rfl, q4.trans hh2⟩, fun fs hl => c6.trans (X4.ireturnOut hexec hret (by rcases hc with rfl | rfl <;> rfl) (Or.inr (Or.inl rfl)) (hb hbytes d18) hl)⟩
end IsL
namespace LChA
def yN : MethodName := ⟨"java/lang/StringLatin1", "charAt", "([BI)C"⟩
abbrev yB : ByteArray := jdk_43_method_2_code
theorem d0 : decode yB 0 = .ok (.iload_n 1, 1) := by decide +kernel
theorem d1 : decode yB 1 = .ok (.aload_n 0, 1) := by decide +kernel
theorem d2 : decode yB 2 = .ok (.arraylength, 1) := by decide +kernel
theorem d3 : decode yB 3 = .ok (.invokestatic 9, 3) := by decide +kernel
theorem d6 : decode yB 6 = .ok (.aload_n 0, 1) := by decide +kernel
theorem d7 : decode yB 7 = .ok (.iload_n 1, 1) := by decide +kernel
theorem d8 : decode yB 8 = .ok (.baload, 1) := by decide +kernel
theorem d9 : decode yB 9 = .ok (.sipush 255, 3) := by decide +kernel
theorem d12 : decode yB 12 = .ok (.iand, 1) := by decide +kernel
theorem d13 : decode yB 13 = .ok (.i2c, 1) := by decide +kernel
theorem d14 : decode yB 14 = .ok (.ireturn, 1) := by decide +kernel
def site : List Cond := [JO.Str_checkIndex.tab] ++ staticW "java/lang/StringLatin1" 9 JO.Str_checkIndex.yN
def tab : Cond := tabOf yN yB 2 (some .char) site
def P (t : Addr) (V : Cell) (i : Nat) (u : Int32) (fm : Value) (args : Array Value) (s : State) : Prop := args = #[.ref t, .int (Int32.ofNat i)] ∧ XT.Arr .byte t V s ∧ V.slots[i]? = some (.int u) ∧ (StaticIs s "jdk/internal/util/Preconditions" "SIOOBE_FORMATTER" "Ljava/util/function/BiFunction;" fm ∧ fm.isRef = true)
def E (u : Int32) (r : Option Value) (s w : State) : Prop := XT.PureE (some (.int (chr8 u))) r s w
theorem law (l : Launch) (t : Addr) (V : Cell) (i : Nat) (u : Int32) (fm : Value) : Law l yN 2 2 2 27 yB 2 (some .char) site (P t V i u fm) (E u) [] 0 0 := by
  refine Law.of_walk (plainFor_of_name (by decide +kernel)) (by decide +kernel) (by decide +kernel) (by decide) (fun _ _ h => by rw [h.1]; rfl) (fun _ U U' hal hh h => ⟨h.1, h.2.1.mv hal hh, h.2.2.1, h.2.2.2.1.there hal hh, h.2.2.2.2⟩) (fun r U U' V V' h1 hal h2 h => XT.PureE.mv r U U' V V' h1 hal h2 h) ?_
  intro p e s m args below meth c s₁ X0 hexec hbytes hml hret hlk hnm hown hh0 W hP
  obtain ⟨rfl, hV, hu, s1, rf⟩ := hP
  have v31 := hV.2.2.2
  have hi : i < V.slots.size := (Array.getElem?_eq_some_iff.mp hu).1
  have c1 : Steps p.tables e below (s₁.setTop (entryFrame m #[.ref t, .int (Int32.ofNat i)] 2)) (s₁.setTop (mkF m 0 #[.val (.ref t), .val (.int (Int32.ofNat i))] [])) := entry rfl
  have c2 : Steps p.tables e below (s₁.setTop (entryFrame m #[.ref t, .int (Int32.ofNat i)] 2)) (s₁.setTop (mkF m 3 #[.val (.ref t), .val (.int (Int32.ofNat i))] [.int (Int32.ofNat V.slots.size), .int (Int32.ofNat i)])) := c1.trans (by
    refine XS.iloadN X0.here hexec rfl (hb hbytes d0) rfl ?_
    refine XS.aloadN X0.here hexec rfl (hb hbytes d1) rfl rfl ?_
    refine X0.alen hexec (hV.mv X0.warmed.alike hh0) rfl rfl (hb hbytes d2) ?_
    exact Steps.refl _)
  obtain ⟨v3, T3, X3, E3, g3⟩ := X0.callS hexec (JO.Str_checkIndex.law l (Int32.ofNat i) (Int32.ofNat V.slots.size) fm) hown (wks W (staticW "java/lang/StringLatin1" 9 JO.Str_checkIndex.yN)) (wk W JO.Str_checkIndex.tab) (W := 0) (Nat.le_of_ble_eq_true rfl) (Nat.le_of_ble_eq_true rfl) (Nat.le_refl _) (Nat.le_refl _) (g := (mkF m 3 #[.val (.ref t), .val (.int (Int32.ofNat i))] [.int (Int32.ofNat V.slots.size), .int (Int32.ofNat i)])) rfl (by rw [hml]; rfl) c2 (argsL := [.int (Int32.ofNat i), .int (Int32.ofNat V.slots.size)]) (rest := []) rfl rfl (by show 2 * 0 + 0 ≤ _; decide) (hb hbytes d3) (⟨rfl, rf, s1.there X0.warmed.alike hh0, Int32.ofNat_not_neg (by omega), lt32 v31 hi⟩)
  obtain ⟨rfl, q3⟩ := E3
  have hh3 := q3.trans hh0
  have c4 : Steps p.tables e below (s₁.setTop (entryFrame m #[.ref t, .int (Int32.ofNat i)] 2)) (T3.setTop (mkF m 14 #[.val (.ref t), .val (.int (Int32.ofNat i))] [.int (chr8 u)])) := Steps.trans g3 (by
    refine XS.aloadN X3.here hexec rfl (hb hbytes d6) rfl rfl ?_
    refine XS.iloadN X3.here hexec rfl (hb hbytes d7) rfl ?_
    refine X3.aget hexec (hV.mv X3.warmed.alike hh3) rfl hu rfl rfl (hb hbytes d8) ?_
    refine sipushV X3.here hexec rfl 255 (hb hbytes d9) (by decide) ?_
    refine XS.iand X3.here hexec rfl (hb hbytes d12) rfl ?_
    refine i2c X3.here hexec rfl (hb hbytes d13) rfl ?_
    exact Steps.refl _)
  exact ⟨T3, some (.int (chr8 u)), _, _, _, X3, rfl, rfl, rfl, (fun h => by cases h), ⟨rfl, hh3⟩, fun fs hl => c4.trans (X3.ireturnOut hexec hret (narrow_c _) (Or.inr (Or.inr (Or.inr (Or.inl rfl)))) (hb hbytes d14) hl)⟩
end LChA
end StrChars
namespace StrChars.Road
open Jvm Sem ClassFile Op Lib Jvm.Stand Jvm.Free Jvm.Free.XT
open Jvm.Lib.Cold (StaticIs)
theorem consq {a : Array Value} {s : State} {c : Jvm.Cond} {L : List Jvm.Cond} (h0 : c.before a s = true) (h : ∀ w ∈ L, w.before a s = true) : ∀ w ∈ c :: L, w.before a s = true := fun w hw => (List.mem_cons.mp hw).elim (fun e => e ▸ h0) (h w)
/-- the words of String.length(), either coding -/
abbrev wordsLen : List Jvm.Cond := [.code Len.yN Len.yB 1 (some .int), .initialized ST, .fieldLink ST 9 ST "value" "[B", .fieldLink ST 38 ST "COMPACT_STRINGS" "Z", .fieldLink ST 15 ST "coder" "B", .code Cdr.yN Cdr.yB 1 (some .byte), .methodLink ST 335 Cdr.yN, .declares Cdr.yN, .selects ST Cdr.yN Cdr.yN, .instanceMethod Cdr.yN]
theorem tabLen_of {a : Array Value} {s : State} (h : ∀ w ∈ wordsLen, w.before a s = true) : Len.tab.before a s = true := by
  have hc : Cdr.tab.before a s = true := unparts (wk h (.code Cdr.yN Cdr.yB 1 (some .byte))) (wks h (.initialized Cdr.yN.cls :: Cdr.site))
  have q := consq hc h
  exact unparts (wk q (.code Len.yN Len.yB 1 (some .int))) (wks q (.initialized Len.yN.cls :: Len.site))
theorem movedLen {Z s : State} {a0 args : Array Value} (hZ : Z.Warmed39 s.vm) (hw : ∀ d ∈ wordsLen, d.before a0 Z = true) : ∀ d ∈ wordsLen, d.before args s = true := fun d hd => by
  have q := hw d hd
  have t : ∀ d ∈ wordsLen, d = .arrayClass .byte ∨ (d.onTables && d.keepsFace) = true := by decide +kernel
  rcases t d hd with rfl | t
  · exact RoadKit.mvA hZ q
  · exact RoadKit.mv hZ q t
/-- the bytes of the chars cs, low before high -/
def wideBytes : List Int32 → List Value
  | [] => []
  | c :: cs => .int (lo8 c) :: .int (hi8 c) :: wideBytes cs
theorem wide_lo (d : Value) : ∀ (cs : List Int32) (j : Nat), j < cs.length → (wideBytes cs).getD (2 * j) d = .int (lo8 (cs.getD j 0))
  | [], j, h => absurd h (Nat.not_lt_zero j)
  | c :: cs, 0, _ => rfl
  | c :: cs, j + 1, h => by
    have q := wide_lo d cs j (by simpa using h)
    rw [show 2 * (j + 1) = 2 * j + 1 + 1 from by omega]
    simpa [wideBytes] using q
theorem wide_hi (d : Value) : ∀ (cs : List Int32) (j : Nat), j < cs.length → (wideBytes cs).getD (2 * j + 1) d = .int (hi8 (cs.getD j 0))
  | [], j, h => absurd h (Nat.not_lt_zero j)
  | c :: cs, 0, _ => rfl
  | c :: cs, j + 1, h => by
    have q := wide_hi d cs j (by simpa using h)
    rw [show 2 * (j + 1) + 1 = 2 * j + 1 + 1 + 1 from by omega]
    simpa [wideBytes] using q
theorem low_at (d : Value) (cs : List Int32) (j : Nat) (h : j < cs.length) : (cs.map fun c => Value.int (lo8 c)).getD j d = .int (lo8 (cs.getD j 0)) := by
  simp [List.getD_eq_getElem?_getD, h]
/-- an array of N2 bytes vs codes the chars cs by the coder cd -/
def CodA (cs : List Int32) (cd N2 : Int32) (vs : List Value) : Prop := (cd = 0 ∧ N2 = Int32.ofNat cs.length ∧ vs = (cs.map fun c => Value.int (lo8 c)) ∧ ∀ c ∈ cs, ¬ 255 < c) ∨ (cd = 1 ∧ N2 = Int32.ofNat (2 * cs.length) ∧ vs = wideBytes cs ∧ ∃ c ∈ cs, 255 < c)
theorem CodA.cod {cs : List Int32} {cd N2 : Int32} {vs : List Value} {V : Cell} (h : CodA cs cd N2 vs) (hn : 2 * cs.length < 2 ^ 31) (hs : V.slots.size = N2.toNatClampNeg) (hv : RoadKit.Has V vs (.int 0)) : Cod cd cs.length (fun j => cs.getD j 0) V := by
  rcases h with ⟨rfl, rfl, rfl, h⟩ | ⟨rfl, rfl, rfl, c, hc, hw⟩
  · rw [n32 (by omega)] at hs
    exact Or.inl ⟨rfl, hs, fun j hj => ⟨by rw [hv j (by omega), low_at _ _ _ hj], by
      have e : cs.getD j 0 = cs[j] := by simp [List.getD_eq_getElem?_getD, hj]
      show ¬ 255 < cs.getD j 0
      rw [e]; exact h _ (List.getElem_mem _)⟩⟩
  · rw [n32 (by omega)] at hs
    obtain ⟨j, hj, rfl⟩ := List.getElem_of_mem hc
    exact Or.inr ⟨rfl, hs, fun j hj => ⟨by rw [hv _ (by omega), wide_lo _ _ _ hj], by rw [hv _ (by omega), wide_hi _ _ _ hj]⟩, j, hj, by
      have e : cs.getD j 0 = cs[j] := by simp [List.getD_eq_getElem?_getD, hj]
      show 255 < cs.getD j 0
      rw [e]; exact hw⟩
/-- an object of exactly java/lang/String, its two fields found: as the laws ask it -/
theorem strObj {Z U : State} {a0 : Array Value} {kI : Nat} (wi : (Jvm.Cond.instantiable ST kI).before a0 Z = true) (al : Z.vm.Alike U.vm) {x : Addr} {v0 c0 : Value} (E : RoadKit.Exa Z U.heap x ST) (V : RoadKit.Fld Z U.heap x ST "value" "[B" v0) (C : RoadKit.Fld Z U.heap x ST "coder" "B" c0) :
    ∃ (D : Cell) (fV fC : Field), Blank ST x D U ∧ Found ST "value" "[B" fV U ∧ Found ST "coder" "B" fC U ∧ D.slots[fV.slot]? = some v0 ∧ D.slots[fC.slot]? = some c0 ∧ RoadKit.slotOf Z ST "value" "[B" = fV.slot ∧ RoadKit.slotOf Z ST "coder" "B" = fC.slot := by
  obtain ⟨D, cfV, kV, iV, fV, hD, gV, stV, knV, obV, asV, slV⟩ := V
  obtain ⟨D', cfC, kC, iC, fC, hD', gC, stC, -, -, asC, slC⟩ := C
  cases hD.symm.trans hD'
  obtain ⟨D2, kD, e1, e2, e3, e4, e5⟩ := E
  cases hD.symm.trans e1
  obtain ⟨c2, k2, i1, i2, i3, -⟩ := Cond.instantiable_spec wi
  cases e2.symm.trans i1
  cases e3.symm.trans i2
  obtain ⟨kU, u1, u2⟩ := al.2.2 _ _ e3
  exact ⟨D, fV, fC, ⟨hD, ⟨knV, fun q hq => by rw [hq] at obV; cases obV⟩, by rw [al.findClass]; exact e2, kU, u1, by rw [u2]; exact i3, by rw [u2]; exact e5 i3⟩, ⟨SBG.found_only al ⟨cfV, kV, iV, gV⟩, stV⟩, ⟨SBG.found_only al ⟨cfC, kC, iC, gC⟩, stC⟩, slV, slC, by simp [RoadKit.slotOf, gV], by simp [RoadKit.slotOf, gC]⟩
theorem sta_is {Z U : State} (al : Z.vm.Alike U.vm) {C n d : String} {v : Value} (S : RoadKit.Sta Z U.heap C n d v) : StaticIs U C n d v := by
  obtain ⟨cfS, iS, kS, fS, st, cS, t1, t2, t3, t4, t5, t6, t7⟩ := S
  exact StaticIs.there (s := { Z with heap := U.heap }) ⟨cfS, iS, kS, fS, st, cS, t1, t2, t3, t4, t5, (fun q => by rw [q] at t6; cases t6), t7⟩ al rfl
/-- **length() OF SUCH A STRING** -/
theorem lenW {p : Program} {l : Launch} {e : Env} {R : Room} {s : State} {args : Array Value} {below : List Frame} {len W : Nat} {Z : State} {a0 : Array Value} {h : Heap} (hZ : Z.Warmed39 s.vm) (hw : ∀ d ∈ wordsLen, d.before a0 Z = true) {kI : Nat} (wi : (Jvm.Cond.instantiable ST kI).before a0 Z = true)
    {x t : Addr} {kb : ClassId} {cs : List Int32} {cd N2 z : Int32} {vs : List Value} (E : RoadKit.Exa Z h x ST) (V : RoadKit.Fld Z h x ST "value" "[B" (.ref t)) (C : RoadKit.Fld Z h x ST "coder" "B" (.int cd)) (K : RoadKit.Arv Z h t kb .byte N2 vs (.int 0)) (hc : CodA cs cd N2 vs) (hb : ∀ c ∈ cs, ¬ c < 0 ∧ ¬ (65535 : Int32) < c)
    (S : RoadKit.Sta Z h ST "COMPACT_STRINGS" "Z" (.int z)) (hz : ¬ z = 0) (l2 : cs.length ≤ 4000) (hfr : 2 ≤ R.frames) (hlo : W + 25 ≤ R.locals) :
    Back l R p e below s args (⟨"java/lang/String", "length", "()I"⟩ : MethodName) len W (fun P a => a = #[.ref x] ∧ P.U.heap = h ∧ P.cells + 0 ≤ R.cells ∧ P.slots + 0 ≤ R.slots)
      (fun P _ v B => ∃ L, (v = some (.int (Int32.ofNat cs.length)) ∧ L = [] ∧ B.U.heap = h) ∧ B.locs = P.locs ++ L ∧ B.cells = P.cells + 0 ∧ B.slots = P.slots + 0) := by
  obtain ⟨A, K1, K2, K3, K4, K5, K6⟩ := K
  have hcod := hc.cod (by omega) K3 K5
  intro m meth c P g ig mk a X hg hsize hdg hW hn hp'
  obtain ⟨rfl, rfl, r1, r2⟩ := hp'
  have al : Z.vm.Alike P.U.vm := hZ.alike.trans X.warmed.alike
  obtain ⟨D, fV, fC, hB, F1, F2, g1, g2, -, -⟩ := strObj wi al E V C
  have hx : Txt x t A cd cs.length (fun j => cs.getD j 0) P.U := ⟨⟨_, hB.2.2.1, D, hB.1, rfl, by cases q : D.vm <;> first | rfl | exact absurd q (hB.2.1.2 _)⟩, Has.of hB F1 g1, Has.of hB F2 g2, ⟨K1.1, State.isArrayOf_alike al K1.2.1, K1.2.2, by rcases hcod with ⟨-, q, -⟩ | ⟨-, q, -⟩ <;> omega⟩, hcod, fun j hj => by
    have e : cs.getD j 0 = cs[j] := by simp [List.getD_eq_getElem?_getD, hj]
    show ¬ cs.getD j 0 < 0 ∧ ¬ 65535 < cs.getD j 0
    rw [e]; exact hb _ (List.getElem_mem _)⟩
  obtain ⟨v, B, X', ⟨⟨hv, hh⟩, hl, hk, hs⟩, st⟩ := Len.pays x t A cd cs.length (fun j => cs.getD j 0) z (tabLen_of (movedLen hZ hw)) hfr hlo m meth c P g ig mk _ X hg hsize hdg hW hn ⟨r1, r2, rfl, hx, sta_is al S, hz⟩
  exact ⟨v, B, X', ⟨[], ⟨hv, rfl, hh⟩, hl, hk, hs⟩, st⟩
end StrChars.Road
namespace StrChars.Road
open Jvm Sem ClassFile Op Lib Jvm.Stand Jvm.Free Jvm.Free.XT
open Jvm.Lib.Cold (StaticIs)
/-- the road's facts of a String, as the laws ask it -/
theorem txt_of {Z U : State} {a0 : Array Value} {kI : Nat} (wi : (Jvm.Cond.instantiable ST kI).before a0 Z = true) (al : Z.vm.Alike U.vm) {x t : Addr} {kb : ClassId} {cs : List Int32} {cd N2 : Int32} {vs : List Value} (E : RoadKit.Exa Z U.heap x ST) (V : RoadKit.Fld Z U.heap x ST "value" "[B" (.ref t)) (C : RoadKit.Fld Z U.heap x ST "coder" "B" (.int cd)) (K : RoadKit.Arv Z U.heap t kb .byte N2 vs (.int 0)) (hc : CodA cs cd N2 vs) (hb : ∀ c ∈ cs, ¬ c < 0 ∧ ¬ (65535 : Int32) < c) (l2 : cs.length ≤ 4000) :
    ∃ A, Txt x t A cd cs.length (fun j => cs.getD j 0) U := by
  obtain ⟨A, K1, K2, K3, K4, K5, K6⟩ := K
  have hcod := hc.cod (by omega) K3 K5
  obtain ⟨D, fV, fC, hB, F1, F2, g1, g2, -, -⟩ := strObj wi al E V C
  exact ⟨A, ⟨_, hB.2.2.1, D, hB.1, rfl, by cases q : D.vm <;> first | rfl | exact absurd q (hB.2.1.2 _)⟩, Has.of hB F1 g1, Has.of hB F2 g2, ⟨K1.1, State.isArrayOf_alike al K1.2.1, K1.2.2, by rcases hcod with ⟨-, q, -⟩ | ⟨-, q, -⟩ <;> omega⟩, hcod, fun j hj => by
    have e : cs.getD j 0 = cs[j] := by simp [List.getD_eq_getElem?_getD, hj]
    show ¬ cs.getD j 0 < 0 ∧ ¬ 65535 < cs.getD j 0
    rw [e]; exact hb _ (List.getElem_mem _)⟩
end StrChars.Road
namespace StrChars
open Jvm Sem ClassFile Op Lib Jvm.Stand Jvm.Free.XT Jvm.Free.ALB Jvm.Free.JM Jvm.Free
open Jvm.Lib.Cold (StaticIs)
namespace ChN
def yN : MethodName := ⟨"java/lang/String", "charAt", "(I)C"⟩
abbrev yB : ByteArray := jdk_42_method_56_code
theorem d0 : decode yB 0 = .ok (.aload_n 0, 1) := by decide +kernel
theorem d1 : decode yB 1 = .ok (.invokevirtual 492, 3) := by decide +kernel
theorem d4 : decode yB 4 = .ok (.ifCond (.eq) 12, 3) := by decide +kernel
theorem d7 : decode yB 7 = .ok (.aload_n 0, 1) := by decide +kernel
theorem d8 : decode yB 8 = .ok (.getfield 9, 3) := by decide +kernel
theorem d11 : decode yB 11 = .ok (.iload_n 1, 1) := by decide +kernel
theorem d12 : decode yB 12 = .ok (.invokestatic 495, 3) := by decide +kernel
theorem d15 : decode yB 15 = .ok (.ireturn, 1) := by decide +kernel
def site : List Cond := [.fieldLink "java/lang/String" 9 "java/lang/String" "value" "[B", IsL.tab, LChA.tab] ++ virtW "java/lang/String" 492 "java/lang/String" IsL.yN IsL.yN ++ staticW "java/lang/String" 495 LChA.yN
def tab : Cond := tabOf yN yB 2 (some .char) site
def P (x t : Addr) (V : Cell) (n : Nat) (f : Nat → Int32) (z : Int32) (fm : Value) (i : Nat) (args : Array Value) (s : State) : Prop := args = #[.ref x, .int (Int32.ofNat i)] ∧ Txt x t V 0 n f s ∧ i < n ∧ StaticIs s "java/lang/String" "COMPACT_STRINGS" "Z" (.int z) ∧ ¬ z = 0 ∧ StaticIs s "jdk/internal/util/Preconditions" "SIOOBE_FORMATTER" "Ljava/util/function/BiFunction;" fm ∧ fm.isRef = true
def E (f : Nat → Int32) (i : Nat) (r : Option Value) (s u : State) : Prop := XT.PureE (some (.int (f i))) r s u
/-- charAt(i) of a Latin-1 String of n chars, i < n: f i -/
theorem law (l : Launch) (x t : Addr) (V : Cell) (n : Nat) (f : Nat → Int32) (z : Int32) (fm : Value) (i : Nat) : Law l yN 2 1 3 40 yB 2 (some .char) site (P x t V n f z fm i) (E f i) [] 0 0 := by
  refine Law.of_walk (plainFor_of_name (by decide +kernel)) (by decide +kernel) (by decide +kernel) (by decide) (fun _ _ h => by rw [h.1]; rfl) (fun _ U U' hal hh h => ⟨h.1, h.2.1.mv hal hh, h.2.2.1, h.2.2.2.1.there hal hh, h.2.2.2.2.1, h.2.2.2.2.2.1.there hal hh, h.2.2.2.2.2.2⟩) (fun r U U' V V' h1 hal h2 h => XT.PureE.mv r U U' V V' h1 hal h2 h) ?_
  intro p e s m args below meth c s₁ X0 hexec hbytes hml hret hlk hnm hown hh0 W hP
  obtain ⟨rfl, hx, hi, s1, hz, s3, rf⟩ := hP
  have v31 := hx.2.2.2.1.2.2.2
  have hr := hx.2.2.2.2.2 i hi
  have hx0 := hx.mv X0.warmed.alike hh0
  have c1 : Steps p.tables e below (s₁.setTop (entryFrame m #[.ref x, .int (Int32.ofNat i)] 2)) (s₁.setTop (mkF m 1 #[.val (.ref x), .val (.int (Int32.ofNat i))] [.ref x])) := Steps.trans (entry rfl) (by
    show Steps p.tables e below (s₁.setTop (mkF m 0 #[.val (.ref x), .val (.int (Int32.ofNat i))] [])) _
    refine XS.aloadN X0.here hexec rfl (hb hbytes d0) rfl rfl ?_
    exact Steps.refl _)
  obtain ⟨v2, T2, X2, E2, g2⟩ := X0.callV hexec (IsL.law l x 0 z) hown (wks W (virtW "java/lang/String" 492 "java/lang/String" IsL.yN IsL.yN)) rfl (by decide) (wk W IsL.tab) (W := 0) (Nat.le_of_ble_eq_true rfl) (Nat.le_of_ble_eq_true rfl) (Nat.le_refl _) (Nat.le_refl _) (hx0.1.fc X0.warmed.alike) hx0.1.is (g := (mkF m 1 #[.val (.ref x), .val (.int (Int32.ofNat i))] [.ref x])) rfl (by rw [hml]; rfl) c1 (argsL := []) (rest := []) rfl rfl (by show 2 * 0 + 0 ≤ _; decide) (hb hbytes d1) (⟨rfl, hx0.2.2.1, hx.2.2.2.2.1.cd, s1.there X0.warmed.alike hh0, hz⟩)
  obtain ⟨rfl, q2⟩ := E2
  have hh2 := q2.trans hh0
  have hx2 := hx.mv X2.warmed.alike hh2
  obtain ⟨-, k1, k2⟩ | ⟨k0, -⟩ := hx.2.2.2.2.1
  · have c3 : Steps p.tables e below (s₁.setTop (entryFrame m #[.ref x, .int (Int32.ofNat i)] 2)) (T2.setTop (mkF m 8 #[.val (.ref x), .val (.int (Int32.ofNat i))] [.ref x])) := Steps.trans g2 (by
      refine XS.ifNo X2.here hexec rfl (hb hbytes d4) rfl (i0_eq_f (by decide)) ?_
      refine XS.aloadN X2.here hexec rfl (hb hbytes d7) rfl rfl ?_
      exact Steps.refl _)
    obtain ⟨T4, X4, q4, st4⟩ := X2.hget hexec hown (wk W (.fieldLink "java/lang/String" 9 "java/lang/String" "value" "[B")) hx2.2.1 (g := (mkF m 8 #[.val (.ref x), .val (.int (Int32.ofNat i))] [.ref x])) rfl (rest := []) rfl (hb hbytes d8)
    have hh4 := q4.trans hh2
    have c5 : Steps p.tables e below (s₁.setTop (entryFrame m #[.ref x, .int (Int32.ofNat i)] 2)) (T4.setTop (mkF m 12 #[.val (.ref x), .val (.int (Int32.ofNat i))] [.int (Int32.ofNat i), .ref t])) := (c3.trans (st4 _ (Steps.refl _))).trans (by
      refine XS.iloadN X4.here hexec rfl (hb hbytes d11) rfl ?_
      exact Steps.refl _)
    obtain ⟨v6, T6, X6, E6, g6⟩ := X4.callS hexec (LChA.law l t V i (lo8 (f i)) fm) hown (wks W (staticW "java/lang/String" 495 LChA.yN)) (wk W LChA.tab) (W := 0) (Nat.le_of_ble_eq_true rfl) (Nat.le_of_ble_eq_true rfl) (Nat.le_refl _) (Nat.le_refl _) (g := (mkF m 12 #[.val (.ref x), .val (.int (Int32.ofNat i))] [.int (Int32.ofNat i), .ref t])) rfl (by rw [hml]; rfl) c5 (argsL := [.ref t, .int (Int32.ofNat i)]) (rest := []) rfl rfl (by show 2 * 0 + 0 ≤ _; decide) (hb hbytes d12) (⟨rfl, hx.2.2.2.1.mv X4.warmed.alike hh4, (k2 i hi).1, s3.there X4.warmed.alike hh4, rf⟩)
    obtain ⟨rfl, q6⟩ := E6
    rw [chr8_lo8 hr.1 (k2 i hi).2] at g6
    exact ⟨T6, some (.int (f i)), _, _, _, X6, rfl, rfl, rfl, (fun h => by cases h), ⟨rfl, q6.trans hh4⟩, fun fs hl => Steps.trans g6 (X6.ireturnOut hexec hret (narrow_ch hr.1 hr.2) (Or.inr (Or.inr (Or.inr (Or.inl rfl)))) (hb hbytes d15) hl)⟩
  · exact absurd k0 (by decide)
theorem pays {l : Launch} {R : Room} {p : Program} {e : Env} {below : List Frame} {s : State} {sargs : Array Value} {len W : Nat} (x t : Addr) (V : Cell) (n : Nat) (f : Nat → Int32) (z : Int32) (fm : Value) (i : Nat) (htab : tab.before sargs s = true) (hfr : 4 ≤ R.frames) (hlo : W + 53 ≤ R.locals) :
    Back l R p e below s sargs yN len W (fun A₁ a₁ => A₁.cells + 0 ≤ R.cells ∧ A₁.slots + 0 ≤ R.slots ∧ P x t V n f z fm i a₁ A₁.U) (fun A₁ _ v₁ B₁ => E f i v₁ A₁.U B₁.U ∧ B₁.locs = A₁.locs ++ [] ∧ B₁.cells = A₁.cells + 0 ∧ B₁.slots = A₁.slots + 0) :=
  (law l x t V n f z fm i).pays htab hfr (by omega)
end ChN
end StrChars
namespace StrChars.Road
open Jvm Sem ClassFile Op Lib Jvm.Stand Jvm.Free Jvm.Free.XT
open Jvm.Lib.Cold (StaticIs)
/-- the words of String.charAt(int), the Latin-1 road alone -/
abbrev wordsChN : List Jvm.Cond := [.code ChN.yN ChN.yB 2 (some .char), .initialized ST, .fieldLink ST 9 ST "value" "[B", .fieldLink ST 38 ST "COMPACT_STRINGS" "Z", .fieldLink ST 15 ST "coder" "B", .code IsL.yN IsL.yB 1 (some .boolean), .methodLink ST 492 IsL.yN, .declares IsL.yN, .selects ST IsL.yN IsL.yN, .instanceMethod IsL.yN,
  .methodLink ST 495 LChA.yN, .static LChA.yN, .code LChA.yN LChA.yB 2 (some .char), .initialized "java/lang/StringLatin1", .methodLink "java/lang/StringLatin1" 9 JO.Str_checkIndex.yN, .static JO.Str_checkIndex.yN, .code JO.Str_checkIndex.yN JO.Str_checkIndex.yB 2 none,
  .fieldLink ST 1053 "jdk/internal/util/Preconditions" "SIOOBE_FORMATTER" "Ljava/util/function/BiFunction;", .methodLink ST 1059 JC.PreCheck.yN, .static JC.PreCheck.yN, .code JC.PreCheck.yN JC.PreCheck.yB 3 (some .int), .initialized "jdk/internal/util/Preconditions"]
theorem tabChN_of {a : Array Value} {s : State} (h : ∀ w ∈ wordsChN, w.before a s = true) : ChN.tab.before a s = true := by
  have hp : JC.PreCheck.tab.before a s = true := unparts (wk h (.code JC.PreCheck.yN JC.PreCheck.yB 3 (some .int))) (wks h (.initialized JC.PreCheck.yN.cls :: JC.PreCheck.site))
  have qk := consq hp h
  have hk : JO.Str_checkIndex.tab.before a s = true := unparts (wk qk (.code JO.Str_checkIndex.yN JO.Str_checkIndex.yB 2 none)) (wks qk (.initialized JO.Str_checkIndex.yN.cls :: JO.Str_checkIndex.site))
  have ql := consq hk h
  have hl : LChA.tab.before a s = true := unparts (wk ql (.code LChA.yN LChA.yB 2 (some .char))) (wks ql (.initialized LChA.yN.cls :: LChA.site))
  have hi : IsL.tab.before a s = true := unparts (wk h (.code IsL.yN IsL.yB 1 (some .boolean))) (wks h (.initialized IsL.yN.cls :: IsL.site))
  have q := consq hi (consq hl h)
  exact unparts (wk q (.code ChN.yN ChN.yB 2 (some .char))) (wks q (.initialized ChN.yN.cls :: ChN.site))
theorem movedChN {Z s : State} {a0 args : Array Value} (hZ : Z.Warmed39 s.vm) (hw : ∀ d ∈ wordsChN, d.before a0 Z = true) : ∀ d ∈ wordsChN, d.before args s = true := fun d hd => by
  have t : ∀ d ∈ wordsChN, (d.onTables && d.keepsFace) = true := by decide +kernel
  exact RoadKit.mv hZ (hw d hd) (t d hd)
/-- **charAt(i) OF A LATIN-1 STRING**, i < n: the char -/
theorem chN {p : Program} {l : Launch} {e : Env} {R : Room} {s : State} {args : Array Value} {below : List Frame} {len W : Nat} {Z : State} {a0 : Array Value} {h : Heap} (hZ : Z.Warmed39 s.vm) (hw : ∀ d ∈ wordsChN, d.before a0 Z = true) {kI : Nat} (wi : (Jvm.Cond.instantiable ST kI).before a0 Z = true)
    {x t : Addr} {kb : ClassId} {cs : List Int32} {N2 z : Int32} {vs : List Value} {fm : Value} {i : Nat} {j : Int32} (E : RoadKit.Exa Z h x ST) (V : RoadKit.Fld Z h x ST "value" "[B" (.ref t)) (C : RoadKit.Fld Z h x ST "coder" "B" (.int 0)) (K : RoadKit.Arv Z h t kb .byte N2 vs (.int 0)) (hc : CodA cs 0 N2 vs) (hb : ∀ c ∈ cs, ¬ c < 0 ∧ ¬ (65535 : Int32) < c)
    (S : RoadKit.Sta Z h ST "COMPACT_STRINGS" "Z" (.int z)) (hz : ¬ z = 0) (F : RoadKit.Sta Z h "jdk/internal/util/Preconditions" "SIOOBE_FORMATTER" "Ljava/util/function/BiFunction;" fm) (rf : fm.isRef = true) (l2 : cs.length ≤ 4000) (hi : i < cs.length) (hj : j = Int32.ofNat i) (hfr : 4 ≤ R.frames) (hlo : W + 53 ≤ R.locals) :
    Back l R p e below s args (⟨"java/lang/String", "charAt", "(I)C"⟩ : MethodName) len W (fun P a => a = #[.ref x, .int j] ∧ P.U.heap = h ∧ P.cells + 0 ≤ R.cells ∧ P.slots + 0 ≤ R.slots)
      (fun P _ v B => ∃ L, (v = some (.int (cs.getD i 0)) ∧ L = [] ∧ B.U.heap = h) ∧ B.locs = P.locs ++ L ∧ B.cells = P.cells + 0 ∧ B.slots = P.slots + 0) := by
  subst hj
  intro m meth c P g ig mk a X hg hsize hdg hW hn hp'
  obtain ⟨rfl, rfl, r1, r2⟩ := hp'
  have al : Z.vm.Alike P.U.vm := hZ.alike.trans X.warmed.alike
  obtain ⟨A, hx⟩ := txt_of wi al E V C K hc hb l2
  obtain ⟨v, B, X', ⟨⟨hv, hh⟩, hl, hk, hs⟩, st⟩ := ChN.pays x t A cs.length (fun j => cs.getD j 0) z fm i (tabChN_of (movedChN hZ hw)) hfr hlo m meth c P g ig mk _ X hg hsize hdg hW hn ⟨r1, r2, rfl, hx, hi, sta_is al S, hz, sta_is al F, rf⟩
  exact ⟨v, B, X', ⟨[], ⟨hv, rfl, hh⟩, hl, hk, hs⟩, st⟩
/-- what backV says of its String, as the contracts of this text ask it: cs's low bytes, coder 0 -/
theorem codOf {cs : List Int32} {n : Nat} (hn : cs.length = n) (hb : ∀ c ∈ cs, ¬ 255 < c) : CodA cs 0 (Int32.ofNat n) ((cs.map lo8).map Value.int) := Or.inl ⟨rfl, by rw [hn], by simp [List.map_map, Function.comp_def], hb⟩
end StrChars.Road
end Jvm.Pilot.@@N@@
namespace Jvm.Pilot.@@N@@
open Jvm Jvm.ClassFile Sem Op Lib Jvm.Free Jvm.Stand Jvm.LawKit Jvm.RoadKit Bundle Jvm.Pilot.@@N@@.Jvm.D
/-- a byte as a char: 0 to 255 -/
def own_B (x : Int32) : Prop := ∃ k : Fin 256, x = Int32.ofNat k.val
theorem own_B.lit (k : Fin 256) : own_B (Int32.ofNat k.val) := ⟨k, rfl⟩
theorem own_B.rng {x : Int32} (h : own_B x) : ¬ x < 0 ∧ ¬ (255 : Int32) < x := by
  obtain ⟨k, rfl⟩ := h
  have t : ∀ k : Fin 256, ¬ (Int32.ofNat k.val) < 0 ∧ ¬ (255 : Int32) < (Int32.ofNat k.val) := by decide +kernel
  exact t k
theorem own_B.rng2 {x : Int32} (h : own_B x) : ¬ x < 0 ∧ ¬ (65535 : Int32) < x := by
  obtain ⟨k, rfl⟩ := h
  have t : ∀ k : Fin 256, ¬ (Int32.ofNat k.val) < 0 ∧ ¬ (65535 : Int32) < (Int32.ofNat k.val) := by decide +kernel
  exact t k
theorem own_B.nar {x : Int32} (h : own_B x) : nar .char x = x := by
  obtain ⟨k, rfl⟩ := h
  have t : ∀ k : Fin 256, Jvm.RoadKit.nar .char (Int32.ofNat k.val) = Int32.ofNat k.val := by decide +kernel
  exact t k
theorem own_and255 (x : Int32) : own_B (x &&& (255 : Int32)) := by
  have h : (x &&& 255).toBitVec.toNat < 256 := by
    simp only [Int32.toBitVec_and, BitVec.toNat_and]
    exact Nat.lt_succ_of_le Nat.and_le_right
  refine ⟨⟨_, h⟩, ?_⟩
  apply Int32.toBitVec_inj.mp
  apply BitVec.eq_of_toNat_eq
  simp only [Int32.toBitVec_ofNat', BitVec.toNat_ofNat]
  rw [Nat.mod_eq_of_lt (Nat.lt_of_lt_of_le h (by decide))]
theorem own_i2c {x : Int32} (h : own_B x) : x.toUInt32.toUInt16.toUInt32.toInt32 = x := h.nar
theorem own_bI (x : Int32) : ∃ c : Int32, own_B c ∧ ((x &&& (255 : Int32)).toUInt32.toUInt16.toUInt32.toInt32) = c := ⟨_, by rw [own_i2c (own_and255 x)]; exact own_and255 x, rfl⟩
theorem own_ofInt {x : Int32} {n : Nat} (h : x.toInt = (n : Int)) : x = Int32.ofNat n := by
  have : x = Int32.ofInt x.toInt := (Int32.ofInt_toInt x).symm
  rw [this, h]; rfl
theorem own_bL (x : Int64) : ∃ c : Int32, own_B c ∧ (((x &&& (255 : Int64)).toInt32).toUInt32.toUInt16.toUInt32.toInt32) = c := by
  have h1 := c_maskL x 255 8 (by decide) rfl
  have h2 : 0 ≤ (x &&& 255).toInt := by rw [h1]; exact Int.emod_nonneg _ (by decide)
  have h3 : (x &&& 255).toInt < 256 := by rw [h1]; exact Int.emod_lt_of_pos _ (by decide)
  have h4 : ((x &&& 255).toInt32).toInt = ((x &&& 255).toInt.toNat : Int) := by
    rw [Int64.toInt_toInt32, Int.toNat_of_nonneg h2, Int.bmod_eq_of_le (by omega) (by omega)]
  have h5 := own_ofInt h4
  have hB : own_B ((x &&& (255 : Int64)).toInt32) := ⟨⟨(x &&& 255).toInt.toNat, by omega⟩, h5⟩
  exact ⟨_, by rw [own_i2c hB]; exact hB, rfl⟩
theorem own_rem (x : Int32) (d : Nat) (h0 : 0 < d) (hd : (Int32.ofNat d).toInt = (d : Int)) : ∃ j : Fin d, ((x &&& (2147483647 : Int32)) % (Int32.ofNat d)) = Int32.ofNat j.val := by
  have h1 := (c_and x 2147483647 (by decide)).1
  have h2 := (c_irem (x &&& 2147483647) (Int32.ofNat d) d hd).1 h1
  have h3 : 0 ≤ (x &&& 2147483647).toInt % (d : Int) := Int.emod_nonneg _ (by omega)
  have h4 : (x &&& 2147483647).toInt % (d : Int) < (d : Int) := Int.emod_lt_of_pos _ (by omega)
  refine ⟨⟨((x &&& 2147483647).toInt % (d : Int)).toNat, by omega⟩, own_ofInt ?_⟩
  rw [h2]; exact (Int.toNat_of_nonneg h3).symm
/-- a Bool as the machine's int -/
def own_i (b : Bool) : Int32 := if b then 1 else 0
theorem own_i0 (b : Bool) : own_i b = (0 : Int32) ↔ b = false := by cases b <;> decide
theorem own_iT {b : Bool} (h : b = true) : ¬ (own_i b = (0 : Int32)) := by subst h; decide
theorem own_iF {b : Bool} (h : b = false) : own_i b = (0 : Int32) := by subst h; rfl
theorem own_inar (b : Bool) : nar .boolean (own_i b) = own_i b := by cases b <;> decide
theorem own_getD (cs : List Int32) (n : Nat) : (cs.map Value.int).getD n (.int 0) = .int (cs.getD n 0) := by
  simp only [List.getD_eq_getElem?_getD, List.getElem?_map]
  cases cs[n]? <;> rfl
theorem own_lt32 {i n : Nat} (hi : i < 2147483648) (hn : n < 2147483648) : (Int32.ofNat i < Int32.ofNat n) ↔ i < n := by
  rw [Int32.lt_iff_toInt_lt, Int32.toInt_ofNat_of_lt hi, Int32.toInt_ofNat_of_lt hn]; omega
theorem own_succ (i : Nat) : Int32.ofNat i + (1 : Int32) = Int32.ofNat (i + 1) := by
  rw [Int32.ofNat_add]; rfl
theorem own_nil : ∀ c ∈ ([] : List Int32), own_B c := fun _ h => nomatch h
theorem own_cons {a : Int32} {l : List Int32} (h : own_B a) (t : ∀ c ∈ l, own_B c) : ∀ c ∈ a :: l, own_B c := fun c hc => (List.mem_cons.mp hc).elim (fun e => e ▸ h) (t c)
theorem own_Bl (k : Nat) (h : k < 256) : own_B (Int32.ofNat k) := ⟨⟨k, h⟩, rfl⟩
/-- the bytes of some chars -/
def own_bv (bs : List Int32) : List Value := (bs.map (fun c : Int32 => c.toInt8.toInt32)).map Value.int
/-- a StringBuilder that holds bs, in an array of L bytes -/
def own_SB (Z : State) (h : Heap) (b t : Addr) (kb : ClassId) (L : Nat) (bs : List Int32) : Prop :=
  Exa Z h b "java/lang/StringBuilder" ∧ Fld Z h b "java/lang/AbstractStringBuilder" "count" "I" (.int (Int32.ofNat bs.length)) ∧ Fld Z h b "java/lang/AbstractStringBuilder" "coder" "B" (.int (0 : Int32)) ∧ Fld Z h b "java/lang/AbstractStringBuilder" "value" "[B" (.ref t) ∧
  Arv Z h t kb .byte (Int32.ofNat L) (own_bv bs) (.int (0 : Int32)) ∧ Exa Z h t "[B" ∧ bs.length ≤ L ∧ L ≤ 4000 ∧ b ≠ t ∧ Z.heap.size ≤ b ∧ Z.heap.size ≤ t
theorem own_sh0 (x : Int32) : (x >>> ((0 : Int32) &&& 31)) = x := by
  have : ((0 : Int32) &&& 31) = 0 := rfl
  rw [this]; apply Int32.toBitVec_inj.mp; simp
theorem own_sl0 (x : Int32) : (x <<< ((0 : Int32) &&& 31)) = x := by
  have : ((0 : Int32) &&& 31) = 0 := rfl
  rw [this]; apply Int32.toBitVec_inj.mp; simp
theorem own_addN (a b : Nat) : (Int32.ofNat a + Int32.ofNat b) = Int32.ofNat (a + b) := (Int32.ofNat_add ..).symm
theorem own_subN {a b : Nat} (h : b ≤ a) : (Int32.ofNat a - Int32.ofNat b) = Int32.ofNat (a - b) := by
  have := own_addN (a - b) b
  rw [Nat.sub_add_cancel h] at this
  rw [← this]; apply Int32.toBitVec_inj.mp; simp
theorem own_clamp {a : Nat} (h : a < 2147483648) : (Int32.ofNat a).toNatClampNeg = a := by
  simp only [Int32.toNatClampNeg]
  rw [show (Int32.ofNat a).toInt = (a : Int) from Int32.toInt_ofNat_of_lt (by omega)]; rfl
theorem own_nneg {a : Nat} (h : a < 2147483648) : ¬ (Int32.ofNat a < 0) := by
  rw [Int32.lt_iff_toInt_lt, show (Int32.ofNat a).toInt = (a : Int) from Int32.toInt_ofNat_of_lt (by omega)]
  show ¬ ((a : Int) < 0); omega
theorem own_cpL (vs vd : List Value) (dv : Value) (s d n : Nat) (hl : d + n ≤ vd.length) (i : Nat) :
    (vd.take d ++ (List.range n).map (fun i => vs.getD (s + i) dv) ++ vd.drop (d + n)).getD i dv = if i < d then vd.getD i dv else if i < d + n then vs.getD (s + (i - d)) dv else vd.getD i dv := by
  have l1 : (vd.take d).length = d := by simp; omega
  have l2 : ((List.range n).map (fun i => vs.getD (s + i) dv)).length = n := by simp
  simp only [List.getD_eq_getElem?_getD]
  by_cases h1 : i < d
  · rw [if_pos h1, List.append_assoc, List.getElem?_append_left (by omega), List.getElem?_take]; simp [h1]
  · rw [if_neg h1]
    by_cases h2 : i < d + n
    · rw [if_pos h2, List.getElem?_append_left (by simp; omega), List.getElem?_append_right (by omega), l1]
      simp [List.getElem?_map, List.getElem?_range (show i - d < n by omega)]
    · rw [if_neg h2, List.getElem?_append_right (by simp; omega)]
      simp only [List.length_append, List.length_map, List.length_range, l1, List.getElem?_drop]
      rw [show d + n + (i - (d + n)) = i by omega]
theorem own_bvL (bs : List Int32) : (own_bv bs).length = bs.length := by simp [own_bv]
theorem own_bvA (bs cs : List Int32) : own_bv (bs ++ cs) = own_bv bs ++ own_bv cs := by simp [own_bv]
theorem own_gdA (us ws : List Value) (dv : Value) (i : Nat) : (us ++ ws).getD i dv = if i < us.length then us.getD i dv else ws.getD (i - us.length) dv := by
  simp only [List.getD_eq_getElem?_getD]
  split
  · rw [List.getElem?_append_left (by assumption)]
  · rw [List.getElem?_append_right (by omega)]
theorem own_gd0 (us : List Value) (dv : Value) (i : Nat) (h : us.length ≤ i) : us.getD i dv = dv := by simp [List.getD_eq_getElem?_getD, List.getElem?_eq_none h]
theorem own_gdR (n : Nat) (dv : Value) (i : Nat) : (List.replicate n dv).getD i dv = dv := by
  simp only [List.getD_eq_getElem?_getD, List.getElem?_replicate]; split <;> rfl

section OwnSB
variable {p : Program} {l : Launch} {e : Env} {R : Room} {s : State} {m : MethodId} {args : Array Value} {below : List Frame} {meth : Method} {c : Code} {T S0 Z : State} {locs : List Loc} {cells slots : Nat} {a0 : Array Value} {h h0 : Heap} {own C : String} {index count : Nat} {y z : MethodName} {mx : Nat}
theorem own_same {y2 : MethodName} {D : String} (hc : y2.cls = y.cls) (w : (Cond.instanceMethod y).before a0 Z = true) (w2 : (Cond.instanceMethod y2).before a0 Z = true) (w3 : (Cond.selects D y2 y2).before a0 Z = true) (hy : y.cls ≠ "java/lang/invoke/MethodHandle" ∧ y.cls ≠ "java/lang/invoke/VarHandle") : (Cond.sameMethod y.cls y.cls y.name y.desc).before a0 Z = true := by
  obtain ⟨m, meth, hn, -⟩ := Cond.instanceMethod_spec w
  obtain ⟨m2, meth2, hn2, -⟩ := Cond.instanceMethod_spec w2
  obtain ⟨kr, hkr, hni⟩ := notFace_of_selects (args := a0) w3 m2 hn2
  have hf := State.methodFound?_of_named hn hy
  have q1 := findClass_of_methodNamed hn
  have q2 := findClass_of_methodNamed hn2
  rw [hc] at q2
  have q3 : m.cls = m2.cls := Option.some.inj (q1.symm.trans q2)
  rw [← q3] at hkr
  have hn' : Z.methodNamed? ⟨y.cls, y.name, y.desc⟩ = some m := hn
  simp [Cond.before, Cond.holds, Cond.value, q1, hf, hn', hkr, hni]
theorem own_decl {bytes' : ByteArray} {mx' : Nat} {rt' : Option FieldType} (w : (Cond.instanceMethod y).before a0 Z = true) (wc : (Cond.code y bytes' mx' rt').before a0 Z = true) : (Cond.declares y).before a0 Z = true := by
  obtain ⟨m, meth, hn, hm, hs, -⟩ := Cond.instanceMethod_spec w
  obtain ⟨m2, cM, q1, -, -, -, -, -, -, hsig⟩ := Cond.code_spec hn wc
  cases hm.symm.trans q1
  simp [Cond.before, Cond.holds, Cond.value, hn, hm, hs, hsig]
theorem own_nf {y2 : MethodName} {D : String} (hc : y2.cls = y.cls) (w2 : (Cond.instanceMethod y2).before a0 Z = true) (w3 : (Cond.selects D y2 y2).before a0 Z = true) : NotFace Z y := fun r0 h0 => by
  obtain ⟨m2, meth2, hn2, -⟩ := Cond.instanceMethod_spec w2
  obtain ⟨kr, hkr, hni⟩ := notFace_of_selects (args := a0) w3 m2 hn2
  have q1 := findClass_of_methodNamed h0
  have q2 := findClass_of_methodNamed hn2
  rw [hc] at q2
  have q3 : r0.cls = m2.cls := Option.some.inj (q1.symm.trans q2)
  exact ⟨kr, by rw [q3]; exact hkr, hni⟩
variable {W kc ks : Nat} {Q : Option Value → Heap → List Loc → Prop} {g : JFrame} {argsL rest : List Value} {b : Addr}
theorem own_super (X : Stand p l e R s m args below meth c T locs cells slots) (hx : p.tables.exec = Jvm.exec) (hml : c.maxLocals = mx) (hZ : Z.Warmed39 s.vm) (hown : s.vm.findClass own = some m.cls) {bytes' : ByteArray} {mx' : Nat} {rt' : Option FieldType} (hn : y.name ≠ "<init>")
    (w1 : (Cond.methodLink own index y).before a0 Z = true) (w2 : (Cond.sameMethod y.cls y.cls y.name y.desc).before a0 Z = true) (w3 : (Cond.instanceMethod y).before a0 Z = true) (w4 : (Cond.superclass own y.cls).before a0 Z = true) (wc : (Cond.code y bytes' mx' rt').before a0 Z = true)
    (hK : own_Pay l R p e below s args y 3 W (.ref b :: argsL).toArray h kc ks Q) {K : String} (E : Exa Z h b K) (cm : Steps p.tables e below S0 (T.setTop g)) (hlen : ∀ sig, parseMethodDescriptor y.desc = some sig → argsL.length = sig.parameters.length) (hst : g.stack = argsL.reverse ++ .ref b :: rest) (hd : decode c.code g.pc = .ok (.invokespecial index, 3)) (eT : T.heap = h) (hc : cells + kc ≤ R.cells := by decide) (hs : slots + ks ≤ R.slots := by decide) (hg : g.method = m := by rfl) (hsz : g.locals.size = mx := by rfl) (hW : 2 * g.monitorRoom + (rest.map fun v => v.category).sum ≤ W := by show 2 * 0 + _ ≤ _; exact Nat.le_of_eq rfl) :
    ∃ (v : Option Value) (T' : State) (L : List Loc), Stand p l e R s m args below meth c T' (locs ++ L) (cells + kc) (slots + ks) ∧ Q v T'.heap L ∧ Steps p.tables e below S0 (T'.setTop { g with pc := g.pc + 3, stack := v.toList ++ rest }) := by
  obtain ⟨v, _, ⟨T', L', k', n'⟩, -, X', ⟨L, hQ, l1, l2, l3⟩, st⟩ := superBack X hx hZ hown w1 w2 w3 w4 hn hK eT (Ins.self E) hg (by rw [hml]; exact hsz) wc (argsL := argsL) (rest := rest) hlen hst hW hd (fun _ _ => ⟨rfl, eT, hc, hs⟩)
  dsimp only [Pt.U, Pt.locs, Pt.cells, Pt.slots] at X' l1 l2 l3 st hQ
  subst l1 l2 l3
  exact ⟨v, T', L, X', hQ, cm.trans st⟩
theorem own_virtN (X : Stand p l e R s m args below meth c T locs cells slots) (hx : p.tables.exec = Jvm.exec) (hml : c.maxLocals = mx) (hZ : Z.Warmed39 s.vm) (hown : s.vm.findClass own = some m.cls)
    (w1 : (Cond.methodLink own index y).before a0 Z = true) (w2 : (Cond.declares y).before a0 Z = true) (w3 : (Cond.selects C y z).before a0 Z = true) (w4 : (Cond.instanceMethod z).before a0 Z = true) {Dn : String} {y2 : MethodName} (hc2 : y2.cls = y.cls) (w6 : (Cond.instanceMethod y2).before a0 Z = true) (w5 : (Cond.selects Dn y2 y2).before a0 Z = true) (hy : y.cls ≠ "java/lang/invoke/MethodHandle" ∧ y.cls ≠ "java/lang/invoke/VarHandle")
    (hK : own_Pay l R p e below s args z 3 W (.ref b :: argsL).toArray h kc ks Q) (E : Exa Z h b C) (cm : Steps p.tables e below S0 (T.setTop g)) (hlen : ∀ sig, parseMethodDescriptor y.desc = some sig → argsL.length = sig.parameters.length) (hst : g.stack = argsL.reverse ++ .ref b :: rest) (hd : decode c.code g.pc = .ok (.invokevirtual index, 3)) (eT : T.heap = h) (hc : cells + kc ≤ R.cells := by decide) (hs : slots + ks ≤ R.slots := by decide) (hg : g.method = m := by rfl) (hsz : g.locals.size = mx := by rfl) (hW : 2 * g.monitorRoom + (rest.map fun v => v.category).sum ≤ W := by show 2 * 0 + _ ≤ _; exact Nat.le_of_eq rfl) :
    ∃ (v : Option Value) (T' : State) (L : List Loc), Stand p l e R s m args below meth c T' (locs ++ L) (cells + kc) (slots + ks) ∧ Q v T'.heap L ∧ Steps p.tables e below S0 (T'.setTop { g with pc := g.pc + 3, stack := v.toList ++ rest }) := by
  obtain ⟨cq, kq, qa, qb, qc⟩ := isOf hZ eT E
  obtain ⟨v, _, ⟨T', L', k', n'⟩, -, X', ⟨L, hQ, l1, l2, l3⟩, st⟩ := X.virtualBack hx (y := y) (z := z) hown (mvT hZ w1) (mvT hZ w2) (own_nf (a0 := #[]) hc2 (mvT hZ w6) (mvT hZ w5)) (mvT hZ w3) (mvT hZ w4) hy hK qa qc hg (by rw [hml]; exact hsz) cm (argsL := argsL) (rest := rest) hlen hst hW hd (fun _ _ => ⟨rfl, eT, hc, hs⟩)
  dsimp only [Pt.U, Pt.locs, Pt.cells, Pt.slots] at X' l1 l2 l3 st hQ
  subst l1 l2 l3
  exact ⟨v, T', L, X', hQ, st⟩
theorem own_cloneV (X : Stand p l e R s m args below meth c T locs cells slots) (hx : p.tables.exec = Jvm.exec) (hZ : Z.Warmed39 s.vm) {ad : String} (hown : s.vm.findClass own = some m.cls)
    (w1 : (Cond.methodLink own index ⟨ad, "clone", "()Ljava/lang/Object;"⟩).before a0 Z = true) (w2 : (Cond.sameMethod ad "java/lang/Object" "clone" "()Ljava/lang/Object;").before a0 Z = true) (w3 : (Cond.native ⟨"java/lang/Object", "clone", "()Ljava/lang/Object;"⟩).before a0 Z = true)
    (w4 : (Cond.instanceMethod ⟨"java/lang/Object", "clone", "()Ljava/lang/Object;"⟩).before a0 Z = true) (w5 : (Cond.selects ad ⟨ad, "clone", "()Ljava/lang/Object;"⟩ ⟨"java/lang/Object", "clone", "()Ljava/lang/Object;"⟩).before a0 Z = true) (w6 : (Cond.castable ad "java/lang/Cloneable").before a0 Z = true)
    (eT : T.heap = h) {a : Addr} {k : ClassId} {ty : FieldType} {z : Int32} {vs : List Value} {dv : Value} (F : Arv Z h a k ty z vs dv) (E : Exa Z h a ad) {g : JFrame} (hg : g.method = m) (hsize : g.locals.size = c.maxLocals) {rest : List Value} (hst : g.stack = .ref a :: rest) (hd : decode c.code g.pc = .ok (.invokevirtual index, 3))
    (hf : 1 ≤ R.frames) {W cap : Nat} (hW : 2 * g.monitorRoom + (rest.map fun v => v.category).sum ≤ W) (hl : W + 14 ≤ R.locals) (hcap : z.toNatClampNeg ≤ cap) (hc : cells + 1 ≤ R.cells) (hsl : slots + cap ≤ R.slots) :
    ∃ T' h', Stand p l e R s m args below meth c T' locs (cells + 1) (slots + cap) ∧ T'.heap = h' ∧ Ext h h' ∧ Arv Z h' h.size k ty z vs dv ∧ Exa Z h' h.size ad ∧
      ∀ target, Steps p.tables e below (T'.setTop { g with pc := g.pc + 3, stack := .ref h.size :: rest }) target → Steps p.tables e below (T.setTop g) target := by
  obtain ⟨cl, A, q1, S, q3, H, G⟩ := F
  have FC : FitC Z cl := fitC_of A fun i hi v hv => by rw [H i hi] at hv; cases hv; exact G i hi
  obtain ⟨T', h', X', e', ex, A', E', st⟩ := cloneA X hx hZ hown w1 w2 w3 w4 w5 w6 eT A E FC hg hsize hst hd hf hW hl (by rw [S]; exact hcap) hc hsl
  exact ⟨T', h', X', e', ex, ⟨cloneOf cl, A', q1, S, q3, H, G⟩, E', st⟩
theorem own_cpV (X : Stand p l e R s m args below meth c T locs cells slots) (hx : p.tables.exec = Jvm.exec) (hZ : Z.Warmed39 s.vm) (hown : s.vm.findClass own = some m.cls)
    (w1 : (Cond.methodLink own index Jvm.Stand.acN).before a0 Z = true) (w2 : (Cond.native Jvm.Stand.acN).before a0 Z = true) (w3 : (Cond.static Jvm.Stand.acN).before a0 Z = true) (w4 : (Cond.initialized "java/lang/System").before a0 Z = true) (eT : T.heap = h)
    {a b : Addr} {k k' : ClassId} {ty : FieldType} {vs vd : List Value} {dv : Value} (La Lb sN dN nN : Nat) (A : Arv Z h a k ty (Int32.ofNat La) vs dv) (B : Arv Z h b k' ty (Int32.ofNat Lb) vd dv) (hp : refKind ty = false) (h4 : sN + nN ≤ La) (h5 : dN + nN ≤ Lb) (hLa : La < 2147483648) (hLb : Lb < 2147483648)
    (ws : List Value) (hws : ∀ i, ws.getD i dv = if i < dN then vd.getD i dv else if i < dN + nN then vs.getD (sN + (i - dN)) dv else vd.getD i dv) {n0 : Nat} (N : Fr n0 locs) (ge : n0 ≤ b)
    {g : JFrame} (hg : g.method = m) (hsize : g.locals.size = c.maxLocals) {rest : List Value} (hs : g.stack = .int (Int32.ofNat nN) :: .int (Int32.ofNat dN) :: .ref b :: .int (Int32.ofNat sN) :: .ref a :: rest) (hd : decode c.code g.pc = .ok (.invokestatic index, 3))
    (hf : 1 ≤ R.frames) {W : Nat} (hW : 2 * g.monitorRoom + (rest.map fun v => v.category).sum ≤ W) (hlo : W + (nativeFrameWords "java/lang/System" "arraycopy" 5 + 11) ≤ R.locals) :
    ∃ T' h' L, Stand p l e R s m args below meth c T' L cells slots ∧ T'.heap = h' ∧ Fr n0 L ∧ Keep h h' [b] ∧ Arv Z h' b k' ty (Int32.ofNat Lb) ws dv ∧
      ∀ target, Steps p.tables e below (T'.setTop { g with pc := g.pc + 3, stack := rest }) target → Steps p.tables e below (T.setTop g) target := by
  have cs : (Int32.ofNat sN).toNatClampNeg = sN := own_clamp (by omega)
  have cd : (Int32.ofNat dN).toNatClampNeg = dN := own_clamp (by omega)
  have cn : (Int32.ofNat nN).toNatClampNeg = nN := own_clamp (by omega)
  have cA : (Int32.ofNat La).toNatClampNeg = La := own_clamp hLa
  have cB : (Int32.ofNat Lb).toNatClampNeg = Lb := own_clamp hLb
  obtain ⟨T', h', L, X', e', N', K, V, st⟩ := cpA X hx hZ hown w1 w2 w3 w4 eT (us := (List.range nN).map fun i => vs.getD (sN + i) dv) A (B.pad (pad_rep vd dv (dN + nN))) (Or.inl ⟨rfl, hp⟩) (own_nneg (by omega)) (own_nneg (by omega)) (own_nneg (by omega)) (by rw [cs, cn, cA]; exact h4) (by rw [cd, cn, cB]; exact h5) (by rw [cs, cn]) (by rw [cd, cn]; simp) N ge hg hsize hs hd hf hW hlo
  rw [cd, cn] at V
  exact ⟨T', h', L, X', e', N', K, V.pad fun i => by rw [hws, own_cpL _ _ _ _ _ _ (by simp), pad_rep], st⟩
end OwnSB
theorem own_bvSet (bs : List Int32) (c : Int32) : (own_bv bs ++ [Value.int (0 : Int32)]).set bs.length (.int (c.toInt8.toInt32)) = own_bv (bs ++ [c]) := by
  rw [own_bvA, List.set_append_right _ _ (by rw [own_bvL]; exact Nat.le_refl _)]; simp [own_bv]
theorem own_len1 (bs : List Int32) (c : Int32) : (Int32.ofNat bs.length + (1 : Int32)) = Int32.ofNat (bs ++ [c]).length := by rw [own_succ]; simp
theorem own_subI {a b : Nat} (ha : a < 2147483648) (hb : b < 2147483648) : (Int32.ofNat a - Int32.ofNat b).toInt = (a : Int) - (b : Int) := by
  rw [Int32.toInt_sub, Int32.toInt_ofNat_of_lt ha, Int32.toInt_ofNat_of_lt hb, Int.bmod_eq_of_le (by omega) (by omega)]
theorem own_sub0 {a b : Nat} (h : a ≤ b) (hb : b < 2147483648) : ¬ (0 : Int32) < (Int32.ofNat a - Int32.ofNat b) := by
  rw [Int32.lt_iff_toInt_lt, own_subI (by omega) hb]; show ¬ ((0 : Int) < _); omega
theorem own_sub1 {a b : Nat} (h : b < a) (ha : a < 2147483648) : (0 : Int32) < (Int32.ofNat a - Int32.ofNat b) := by
  rw [Int32.lt_iff_toInt_lt, own_subI ha (by omega)]; show ((0 : Int) < _); omega
theorem own_neN {a b : Nat} (ha : a < 2147483648) (hb : b < 2147483648) (h : a ≠ b) : ¬ (Int32.ofNat a = Int32.ofNat b) := fun q => h (by
  have := congrArg Int32.toInt q
  rw [Int32.toInt_ofNat_of_lt ha, Int32.toInt_ofNat_of_lt hb] at this; omega)
theorem own_maxN {a b : Nat} (ha : a < 2147483648) (hb : b < 2147483648) : (if Int32.ofNat a < Int32.ofNat b then Int32.ofNat b else Int32.ofNat a) = Int32.ofNat (max a b) := by
  by_cases h : a < b
  · rw [if_pos ((own_lt32 ha hb).mpr h), Nat.max_eq_right (by omega)]
  · rw [if_neg (fun q => h ((own_lt32 ha hb).mp q)), Nat.max_eq_left (by omega)]
theorem own_minN {a b : Nat} (ha : a < 2147483648) (hb : b < 2147483648) : (if Int32.ofNat b < Int32.ofNat a then Int32.ofNat b else Int32.ofNat a) = Int32.ofNat (min a b) := by
  by_cases h : b < a
  · rw [if_pos ((own_lt32 hb ha).mpr h), Nat.min_eq_right (by omega)]
  · rw [if_neg (fun q => h ((own_lt32 hb ha).mp q)), Nat.min_eq_left (by omega)]
theorem own_cp0 (bs : List Int32) (L : Nat) (h : bs.length ≤ L) : ∀ i, (own_bv bs).getD i (.int (0 : Int32)) = if i < 0 then ([] : List Value).getD i (.int (0 : Int32)) else if i < 0 + L then (own_bv bs).getD (0 + (i - 0)) (.int (0 : Int32)) else ([] : List Value).getD i (.int (0 : Int32)) := fun i => by
  rw [if_neg (by omega), Nat.zero_add]
  split
  · simp
  · rw [own_gd0 _ _ _ (by rw [own_bvL]; omega)]; rfl
theorem own_sub00 (x : Int32) : (x - (0 : Int32)) = x := by apply Int32.toBitVec_inj.mp; simp
theorem own_cp1 (bs cs : List Int32) (k : Nat) (hk : k ≤ cs.length) : ∀ i, (own_bv (bs ++ cs.take k)).getD i (.int (0 : Int32)) = if i < bs.length then (own_bv bs).getD i (.int (0 : Int32)) else if i < bs.length + k then (own_bv cs).getD (0 + (i - bs.length)) (.int (0 : Int32)) else (own_bv bs).getD i (.int (0 : Int32)) := fun i => by
  have e : own_bv (cs.take k) = (own_bv cs).take k := by simp [own_bv, List.map_take]
  rw [own_bvA, own_gdA, own_bvL]
  split
  · rfl
  · rw [e, Nat.zero_add]
    split
    · simp only [List.getD_eq_getElem?_getD, List.getElem?_take]; rw [if_pos (by omega)]
    · rw [own_gd0 _ _ _ (by simp [own_bvL]; omega), own_gd0 _ _ _ (by rw [own_bvL]; omega)]
theorem own_lenA (bs cs : List Int32) (k : Nat) (hk : k ≤ cs.length) : (Int32.ofNat bs.length + (Int32.ofNat k - (0 : Int32))) = Int32.ofNat (bs ++ cs.take k).length := by
  rw [own_sub00, own_addN]; simp [Nat.min_eq_left hk]
theorem own_b2 (x : Int32) : x.toInt8.toInt32.toInt8.toInt32 = x.toInt8.toInt32 := by rw [Int8.toInt8_toInt32]
theorem own_cp2 (bs cs : List Int32) : ∀ i, (own_bv (bs ++ cs)).getD i (.int (0 : Int32)) = if i < bs.length then (own_bv bs).getD i (.int (0 : Int32)) else if i < bs.length + cs.length then (own_bv cs).getD (0 + (i - bs.length)) (.int (0 : Int32)) else (own_bv bs).getD i (.int (0 : Int32)) := by
  have h := own_cp1 bs cs cs.length (Nat.le_refl _)
  rwa [List.take_length] at h
theorem own_lenB (bs cs : List Int32) : (Int32.ofNat bs.length + Int32.ofNat cs.length) = Int32.ofNat (bs ++ cs).length := by rw [own_addN]; simp
def own_at9 (cs : List Int32) (i : Nat) : Int32 := cs.getD i 0
theorem own_strA : ∀ d ∈ Bundle.stringAtoms, d ∈ tables_1 := by decide +kernel
def EL : List (String × Nat) := consts_1
theorem own_exH : ∀ d ∈ own_exA "java/lang/IllegalStateException", d ∈ tables_1 := by decide +kernel
theorem own_gcM : Cond.codeSync Jvm.RoadKit.gcN Jvm.RoadKit.gcB 1 (some (.object tN)) ∈ tables_1 := by decide +kernel
theorem own_BL (ks : List Nat) (h : (ks.all fun k => decide (k < 256)) = true) : ∀ c ∈ ks.map Int32.ofNat, own_B c := fun c hc => by
  obtain ⟨k, hk, rfl⟩ := List.mem_map.mp hc
  exact own_Bl k (of_decide_eq_true (List.all_eq_true.mp h k hk))
def own_p : List Int32 := [116, 104, 101, 32, 108, 111, 97, 100, 101, 114, 32, 111, 102, 32, 107, 101, 121, 32]
theorem own_pN : own_p.length = 18 := rfl
theorem own_pB : ((own_p : List Int32).map (fun c : Int32 => c.toInt8.toInt32)).map Value.int = [(.int (116 : Int32)), (.int (104 : Int32)), (.int (101 : Int32)), (.int (32 : Int32)), (.int (108 : Int32)), (.int (111 : Int32)), (.int (97 : Int32)), (.int (100 : Int32)), (.int (101 : Int32)), (.int (114 : Int32)), (.int (32 : Int32)), (.int (111 : Int32)), (.int (102 : Int32)), (.int (32 : Int32)), (.int (107 : Int32)), (.int (101 : Int32)), (.int (121 : Int32)), (.int (32 : Int32))] := by first | rfl | decide +kernel
theorem own_pE : Int32.ofNat (own_p : List Int32).length = (18 : Int32) := rfl
theorem own_pC : ∀ c ∈ own_p, own_B c := own_BL [116, 104, 101, 32, 108, 111, 97, 100, 101, 114, 32, 111, 102, 32, 107, 101, 121, 32] (by decide)
def own_m : List Int32 := [32, 111, 102, 32, 99, 97, 99, 104, 101, 32]
theorem own_mN : own_m.length = 10 := rfl
theorem own_mB : ((own_m : List Int32).map (fun c : Int32 => c.toInt8.toInt32)).map Value.int = [(.int (32 : Int32)), (.int (111 : Int32)), (.int (102 : Int32)), (.int (32 : Int32)), (.int (99 : Int32)), (.int (97 : Int32)), (.int (99 : Int32)), (.int (104 : Int32)), (.int (101 : Int32)), (.int (32 : Int32))] := by first | rfl | decide +kernel
theorem own_mE : Int32.ofNat (own_m : List Int32).length = (10 : Int32) := rfl
theorem own_mC : ∀ c ∈ own_m, own_B c := own_BL [32, 111, 102, 32, 99, 97, 99, 104, 101, 32] (by decide)
def own_s : List Int32 := [32, 97, 115, 107, 101, 100, 32, 116, 104, 101, 32, 99, 97, 99, 104, 101, 32, 102, 111, 114, 32, 116, 104, 97, 116, 32, 115, 97, 109, 101, 32, 107, 101, 121, 44, 32, 97, 110, 100, 32, 119, 111, 117, 108, 100, 32, 119, 97, 105, 116, 32, 102, 111, 114, 32, 105, 116, 115, 101, 108, 102]
theorem own_sN : own_s.length = 61 := rfl
theorem own_sB : ((own_s : List Int32).map (fun c : Int32 => c.toInt8.toInt32)).map Value.int = [(.int (32 : Int32)), (.int (97 : Int32)), (.int (115 : Int32)), (.int (107 : Int32)), (.int (101 : Int32)), (.int (100 : Int32)), (.int (32 : Int32)), (.int (116 : Int32)), (.int (104 : Int32)), (.int (101 : Int32)), (.int (32 : Int32)), (.int (99 : Int32)), (.int (97 : Int32)), (.int (99 : Int32)), (.int (104 : Int32)), (.int (101 : Int32)), (.int (32 : Int32)), (.int (102 : Int32)), (.int (111 : Int32)), (.int (114 : Int32)), (.int (32 : Int32)), (.int (116 : Int32)), (.int (104 : Int32)), (.int (97 : Int32)), (.int (116 : Int32)), (.int (32 : Int32)), (.int (115 : Int32)), (.int (97 : Int32)), (.int (109 : Int32)), (.int (101 : Int32)), (.int (32 : Int32)), (.int (107 : Int32)), (.int (101 : Int32)), (.int (121 : Int32)), (.int (44 : Int32)), (.int (32 : Int32)), (.int (97 : Int32)), (.int (110 : Int32)), (.int (100 : Int32)), (.int (32 : Int32)), (.int (119 : Int32)), (.int (111 : Int32)), (.int (117 : Int32)), (.int (108 : Int32)), (.int (100 : Int32)), (.int (32 : Int32)), (.int (119 : Int32)), (.int (97 : Int32)), (.int (105 : Int32)), (.int (116 : Int32)), (.int (32 : Int32)), (.int (102 : Int32)), (.int (111 : Int32)), (.int (114 : Int32)), (.int (32 : Int32)), (.int (105 : Int32)), (.int (116 : Int32)), (.int (115 : Int32)), (.int (101 : Int32)), (.int (108 : Int32)), (.int (102 : Int32))] := by first | rfl | decide +kernel
theorem own_sE : Int32.ofNat (own_s : List Int32).length = (61 : Int32) := rfl
theorem own_sC : ∀ c ∈ own_s, own_B c := own_BL [32, 97, 115, 107, 101, 100, 32, 116, 104, 101, 32, 99, 97, 99, 104, 101, 32, 102, 111, 114, 32, 116, 104, 97, 116, 32, 115, 97, 109, 101, 32, 107, 101, 121, 44, 32, 97, 110, 100, 32, 119, 111, 117, 108, 100, 32, 119, 97, 105, 116, 32, 102, 111, 114, 32, 105, 116, 115, 101, 108, 102] (by decide)
def own_msg (k n : List Int32) : List Int32 := (((own_p ++ k) ++ own_m) ++ n) ++ own_s
theorem own_msgL (k n : List Int32) : (own_msg k n).length = 18 + k.length + 10 + n.length + 61 := by simp only [own_msg, List.length_append, own_pN, own_mN, own_sN]
theorem own_msgC {k n : List Int32} (hk : ∀ c ∈ k, own_B c) (hn : ∀ c ∈ n, own_B c) : ∀ c ∈ own_msg k n, own_B c := fun c hc => by
  rcases List.mem_append.mp hc with hc | hc
  · rcases List.mem_append.mp hc with hc | hc
    · rcases List.mem_append.mp hc with hc | hc
      · rcases List.mem_append.mp hc with hc | hc
        · exact own_pC c hc
        · exact hk c hc
      · exact own_mC c hc
    · exact hn c hc
  · exact own_sC c hc
theorem own_at9L {a b : List Int32} {i : Nat} (h : i < a.length) : own_at9 (a ++ b) i = own_at9 a i := by
  simp only [own_at9, List.getD_eq_getElem?_getD]; rw [List.getElem?_append_left h]
theorem own_at9R {a b : List Int32} {i j : Nat} (h : i = a.length + j) : own_at9 (a ++ b) i = own_at9 b j := by
  simp only [own_at9, List.getD_eq_getElem?_getD]; rw [List.getElem?_append_right (by omega), h, Nat.add_sub_cancel_left]
theorem own_m1 (k n : List Int32) {j : Nat} (h : j < 18) : own_at9 (own_msg k n) j = own_at9 own_p j := by
  have := own_pN
  rw [own_msg, own_at9L (by simp; omega), own_at9L (by simp; omega), own_at9L (by simp; omega), own_at9L (by omega)]
theorem own_m2 (k n : List Int32) {j : Nat} (h : j < k.length) : own_at9 (own_msg k n) (18 + j) = own_at9 k j := by
  have := own_pN
  rw [own_msg, own_at9L (by simp; omega), own_at9L (by simp; omega), own_at9L (by simp; omega), own_at9R (j := j) (by omega)]
theorem own_m3 (k n : List Int32) {j : Nat} (h : j < 10) : own_at9 (own_msg k n) (18 + k.length + j) = own_at9 own_m j := by
  have := own_pN; have := own_mN
  rw [own_msg, own_at9L (by simp; omega), own_at9L (by simp; omega), own_at9R (j := j) (by simp; omega)]
theorem own_m4 (k n : List Int32) {j : Nat} (h : j < n.length) : own_at9 (own_msg k n) (18 + k.length + 10 + j) = own_at9 n j := by
  have := own_pN; have := own_mN
  rw [own_msg, own_at9L (by simp; omega), own_at9R (j := j) (by simp; omega)]
theorem own_m5 (k n : List Int32) (j : Nat) : own_at9 (own_msg k n) (18 + k.length + 10 + n.length + j) = own_at9 own_s j := by
  have := own_pN; have := own_mN
  rw [own_msg, own_at9R (j := j) (by simp; omega)]
theorem own_s1 (j : Nat) : ((18 : Int32) + (Int32.ofNat j)) = Int32.ofNat (18 + j) := own_addN 18 j
theorem own_s2 (a j : Nat) : (((18 : Int32) + (Int32.ofNat a)) + (Int32.ofNat j)) = Int32.ofNat (18 + a + j) := by rw [own_s1, own_addN]
theorem own_s2m (a : Nat) : (((18 : Int32) + (Int32.ofNat a)) + (10 : Int32)) = Int32.ofNat (18 + a + 10) := own_s2 a 10
theorem own_s3 (a j : Nat) : ((((18 : Int32) + (Int32.ofNat a)) + (10 : Int32)) + (Int32.ofNat j)) = Int32.ofNat (18 + a + 10 + j) := by rw [own_s2m, own_addN]
theorem own_s4 (a b j : Nat) : (((((18 : Int32) + (Int32.ofNat a)) + (10 : Int32)) + (Int32.ofNat b)) + (Int32.ofNat j)) = Int32.ofNat (18 + a + 10 + b + j) := by rw [own_s3, own_addN]
theorem own_s5 (a b : Nat) : (((((18 : Int32) + (Int32.ofNat a)) + (10 : Int32)) + (Int32.ofNat b)) + (61 : Int32)) = Int32.ofNat (18 + a + 10 + b + 61) := own_s4 a b 61
theorem own_remN (x : Int32) (d : Nat) (h0 : 0 < d) (hd : d < 2147483648) : ∃ j : Nat, j < d ∧ ((x &&& (2147483647 : Int32)) % (Int32.ofNat d)) = Int32.ofNat j := by
  obtain ⟨j, ej⟩ := own_rem x d h0 (Int32.toInt_ofNat_of_lt hd)
  exact ⟨j.val, j.isLt, ej⟩
theorem own_nz {d : Nat} (h0 : 0 < d) (hd : d < 2147483648) : ¬ (Int32.ofNat d = (0 : Int32)) := own_neN (b := 0) hd (by decide) (by omega)
theorem d1_0 : decode method_2_code 0 = .ok (.iload_n 0, 1) := by decide +kernel
theorem d1_1 : decode method_2_code 1 = .ok (.iconst 3, 1) := by decide +kernel
theorem d1_2 : decode method_2_code 2 = .ok (.iand, 1) := by decide +kernel
theorem d1_3 : decode method_2_code 3 = .ok (.istore_n 1, 1) := by decide +kernel
theorem d1_4 : decode method_2_code 4 = .ok (.iload_n 0, 1) := by decide +kernel
theorem d1_5 : decode method_2_code 5 = .ok (.iconst 2, 1) := by decide +kernel
theorem d1_6 : decode method_2_code 6 = .ok (.iushr, 1) := by decide +kernel
theorem d1_7 : decode method_2_code 7 = .ok (.sipush 255, 3) := by decide +kernel
theorem d1_10 : decode method_2_code 10 = .ok (.iand, 1) := by decide +kernel
theorem d1_11 : decode method_2_code 11 = .ok (.i2c, 1) := by decide +kernel
theorem d1_12 : decode method_2_code 12 = .ok (.istore_n 2, 1) := by decide +kernel
theorem d1_13 : decode method_2_code 13 = .ok (.iload_n 0, 1) := by decide +kernel
theorem d1_14 : decode method_2_code 14 = .ok (.bipush 10, 2) := by decide +kernel
theorem d1_16 : decode method_2_code 16 = .ok (.iushr, 1) := by decide +kernel
theorem d1_17 : decode method_2_code 17 = .ok (.sipush 255, 3) := by decide +kernel
theorem d1_20 : decode method_2_code 20 = .ok (.iand, 1) := by decide +kernel
theorem d1_21 : decode method_2_code 21 = .ok (.i2c, 1) := by decide +kernel
theorem d1_22 : decode method_2_code 22 = .ok (.istore_n 3, 1) := by decide +kernel
theorem d1_23 : decode method_2_code 23 = .ok (.iload_n 0, 1) := by decide +kernel
theorem d1_24 : decode method_2_code 24 = .ok (.bipush 18, 2) := by decide +kernel
theorem d1_26 : decode method_2_code 26 = .ok (.iushr, 1) := by decide +kernel
theorem d1_27 : decode method_2_code 27 = .ok (.sipush 255, 3) := by decide +kernel
theorem d1_30 : decode method_2_code 30 = .ok (.iand, 1) := by decide +kernel
theorem d1_31 : decode method_2_code 31 = .ok (.i2c, 1) := by decide +kernel
theorem d1_32 : decode method_2_code 32 = .ok (.istore 4, 2) := by decide +kernel
theorem d1_34 : decode method_2_code 34 = .ok (.iload_n 1, 1) := by decide +kernel
theorem d1_35 : decode method_2_code 35 = .ok (.ifCond .ne 14, 3) := by decide +kernel
theorem d1_38 : decode method_2_code 38 = .ok (.new 7, 3) := by decide +kernel
theorem d1_41 : decode method_2_code 41 = .ok (.dup, 1) := by decide +kernel
theorem d1_42 : decode method_2_code 42 = .ok (.iconst 0, 1) := by decide +kernel
theorem d1_43 : decode method_2_code 43 = .ok (.newarray .char, 2) := by decide +kernel
theorem d1_45 : decode method_2_code 45 = .ok (.invokespecial 9, 3) := by decide +kernel
theorem d1_48 : decode method_2_code 48 = .ok (.areturn, 1) := by decide +kernel
theorem d1_49 : decode method_2_code 49 = .ok (.iload_n 1, 1) := by decide +kernel
theorem d1_50 : decode method_2_code 50 = .ok (.iconst 1, 1) := by decide +kernel
theorem d1_51 : decode method_2_code 51 = .ok (.if_icmp .ne 18, 3) := by decide +kernel
theorem d1_54 : decode method_2_code 54 = .ok (.new 7, 3) := by decide +kernel
theorem d1_57 : decode method_2_code 57 = .ok (.dup, 1) := by decide +kernel
theorem d1_58 : decode method_2_code 58 = .ok (.iconst 1, 1) := by decide +kernel
theorem d1_59 : decode method_2_code 59 = .ok (.newarray .char, 2) := by decide +kernel
theorem d1_61 : decode method_2_code 61 = .ok (.dup, 1) := by decide +kernel
theorem d1_62 : decode method_2_code 62 = .ok (.iconst 0, 1) := by decide +kernel
theorem d1_63 : decode method_2_code 63 = .ok (.iload_n 2, 1) := by decide +kernel
theorem d1_64 : decode method_2_code 64 = .ok (.castore, 1) := by decide +kernel
theorem d1_65 : decode method_2_code 65 = .ok (.invokespecial 9, 3) := by decide +kernel
theorem d1_68 : decode method_2_code 68 = .ok (.areturn, 1) := by decide +kernel
theorem d1_69 : decode method_2_code 69 = .ok (.iload_n 1, 1) := by decide +kernel
theorem d1_70 : decode method_2_code 70 = .ok (.iconst 2, 1) := by decide +kernel
theorem d1_71 : decode method_2_code 71 = .ok (.if_icmp .ne 22, 3) := by decide +kernel
theorem d1_74 : decode method_2_code 74 = .ok (.new 7, 3) := by decide +kernel
theorem d1_77 : decode method_2_code 77 = .ok (.dup, 1) := by decide +kernel
theorem d1_78 : decode method_2_code 78 = .ok (.iconst 2, 1) := by decide +kernel
theorem d1_79 : decode method_2_code 79 = .ok (.newarray .char, 2) := by decide +kernel
theorem d1_81 : decode method_2_code 81 = .ok (.dup, 1) := by decide +kernel
theorem d1_82 : decode method_2_code 82 = .ok (.iconst 0, 1) := by decide +kernel
theorem d1_83 : decode method_2_code 83 = .ok (.iload_n 2, 1) := by decide +kernel
theorem d1_84 : decode method_2_code 84 = .ok (.castore, 1) := by decide +kernel
theorem d1_85 : decode method_2_code 85 = .ok (.dup, 1) := by decide +kernel
theorem d1_86 : decode method_2_code 86 = .ok (.iconst 1, 1) := by decide +kernel
theorem d1_87 : decode method_2_code 87 = .ok (.iload_n 3, 1) := by decide +kernel
theorem d1_88 : decode method_2_code 88 = .ok (.castore, 1) := by decide +kernel
theorem d1_89 : decode method_2_code 89 = .ok (.invokespecial 9, 3) := by decide +kernel
theorem d1_92 : decode method_2_code 92 = .ok (.areturn, 1) := by decide +kernel
theorem d1_93 : decode method_2_code 93 = .ok (.new 7, 3) := by decide +kernel
theorem d1_96 : decode method_2_code 96 = .ok (.dup, 1) := by decide +kernel
theorem d1_97 : decode method_2_code 97 = .ok (.iconst 3, 1) := by decide +kernel
theorem d1_98 : decode method_2_code 98 = .ok (.newarray .char, 2) := by decide +kernel
theorem d1_100 : decode method_2_code 100 = .ok (.dup, 1) := by decide +kernel
theorem d1_101 : decode method_2_code 101 = .ok (.iconst 0, 1) := by decide +kernel
theorem d1_102 : decode method_2_code 102 = .ok (.iload_n 2, 1) := by decide +kernel
theorem d1_103 : decode method_2_code 103 = .ok (.castore, 1) := by decide +kernel
theorem d1_104 : decode method_2_code 104 = .ok (.dup, 1) := by decide +kernel
theorem d1_105 : decode method_2_code 105 = .ok (.iconst 1, 1) := by decide +kernel
theorem d1_106 : decode method_2_code 106 = .ok (.iload_n 3, 1) := by decide +kernel
theorem d1_107 : decode method_2_code 107 = .ok (.castore, 1) := by decide +kernel
theorem d1_108 : decode method_2_code 108 = .ok (.dup, 1) := by decide +kernel
theorem d1_109 : decode method_2_code 109 = .ok (.iconst 2, 1) := by decide +kernel
theorem d1_110 : decode method_2_code 110 = .ok (.iload 4, 2) := by decide +kernel
theorem d1_112 : decode method_2_code 112 = .ok (.castore, 1) := by decide +kernel
theorem d1_113 : decode method_2_code 113 = .ok (.invokespecial 9, 3) := by decide +kernel
theorem d1_116 : decode method_2_code 116 = .ok (.areturn, 1) := by decide +kernel
theorem d2_0 : decode jdk_42_method_3_code 0 = .ok (.aload_n 0, 1) := by decide +kernel
theorem d2_1 : decode jdk_42_method_3_code 1 = .ok (.aload_n 1, 1) := by decide +kernel
theorem d2_2 : decode jdk_42_method_3_code 2 = .ok (.iconst 0, 1) := by decide +kernel
theorem d2_3 : decode jdk_42_method_3_code 3 = .ok (.aload_n 1, 1) := by decide +kernel
theorem d2_4 : decode jdk_42_method_3_code 4 = .ok (.arraylength, 1) := by decide +kernel
theorem d2_5 : decode jdk_42_method_3_code 5 = .ok (.aconst_null, 1) := by decide +kernel
theorem d2_6 : decode jdk_42_method_3_code 6 = .ok (.invokespecial 27, 3) := by decide +kernel
theorem d2_9 : decode jdk_42_method_3_code 9 = .ok (.return_, 1) := by decide +kernel
theorem d3_0 : decode jdk_42_method_149_code 0 = .ok (.aload_n 0, 1) := by decide +kernel
theorem d3_1 : decode jdk_42_method_149_code 1 = .ok (.invokespecial 1, 3) := by decide +kernel
theorem d3_4 : decode jdk_42_method_149_code 4 = .ok (.iload_n 3, 1) := by decide +kernel
theorem d3_5 : decode jdk_42_method_149_code 5 = .ok (.ifCond .ne 22, 3) := by decide +kernel
theorem d3_8 : decode jdk_42_method_149_code 8 = .ok (.aload_n 0, 1) := by decide +kernel
theorem d3_9 : decode jdk_42_method_149_code 9 = .ok (.ldc 7, 2) := by decide +kernel
theorem d3_11 : decode jdk_42_method_149_code 11 = .ok (.getfield 9, 3) := by decide +kernel
theorem d3_14 : decode jdk_42_method_149_code 14 = .ok (.putfield 9, 3) := by decide +kernel
theorem d3_17 : decode jdk_42_method_149_code 17 = .ok (.aload_n 0, 1) := by decide +kernel
theorem d3_18 : decode jdk_42_method_149_code 18 = .ok (.ldc 7, 2) := by decide +kernel
theorem d3_20 : decode jdk_42_method_149_code 20 = .ok (.getfield 15, 3) := by decide +kernel
theorem d3_23 : decode jdk_42_method_149_code 23 = .ok (.putfield 15, 3) := by decide +kernel
theorem d3_26 : decode jdk_42_method_149_code 26 = .ok (.return_, 1) := by decide +kernel
theorem d8_0 : decode prog_2_method_18_code 0 = .ok (.new 274, 3) := by decide +kernel
theorem d8_3 : decode prog_2_method_18_code 3 = .ok (.dup, 1) := by decide +kernel
theorem d8_4 : decode prog_2_method_18_code 4 = .ok (.new 276, 3) := by decide +kernel
theorem d8_7 : decode prog_2_method_18_code 7 = .ok (.dup, 1) := by decide +kernel
theorem d8_8 : decode prog_2_method_18_code 8 = .ok (.invokespecial 278, 3) := by decide +kernel
theorem d8_11 : decode prog_2_method_18_code 11 = .ok (.ldc_w 279, 3) := by decide +kernel
theorem d8_14 : decode prog_2_method_18_code 14 = .ok (.invokevirtual 281, 3) := by decide +kernel
theorem d8_17 : decode prog_2_method_18_code 17 = .ok (.aload_n 1, 1) := by decide +kernel
theorem d8_18 : decode prog_2_method_18_code 18 = .ok (.invokevirtual 281, 3) := by decide +kernel
theorem d8_21 : decode prog_2_method_18_code 21 = .ok (.ldc_w 285, 3) := by decide +kernel
theorem d8_24 : decode prog_2_method_18_code 24 = .ok (.invokevirtual 281, 3) := by decide +kernel
theorem d8_27 : decode prog_2_method_18_code 27 = .ok (.aload_n 0, 1) := by decide +kernel
theorem d8_28 : decode prog_2_method_18_code 28 = .ok (.invokevirtual 281, 3) := by decide +kernel
theorem d8_31 : decode prog_2_method_18_code 31 = .ok (.ldc_w 287, 3) := by decide +kernel
theorem d8_34 : decode prog_2_method_18_code 34 = .ok (.invokevirtual 281, 3) := by decide +kernel
theorem d8_37 : decode prog_2_method_18_code 37 = .ok (.invokevirtual 289, 3) := by decide +kernel
theorem d8_40 : decode prog_2_method_18_code 40 = .ok (.invokespecial 292, 3) := by decide +kernel
theorem d8_43 : decode prog_2_method_18_code 43 = .ok (.areturn, 1) := by decide +kernel
theorem d9_0 : decode jdk_67_method_1_code 0 = .ok (.aload_n 0, 1) := by decide +kernel
theorem d9_1 : decode jdk_67_method_1_code 1 = .ok (.bipush 16, 2) := by decide +kernel
theorem d9_3 : decode jdk_67_method_1_code 3 = .ok (.invokespecial 1, 3) := by decide +kernel
theorem d9_6 : decode jdk_67_method_1_code 6 = .ok (.return_, 1) := by decide +kernel
theorem d10_0 : decode jdk_68_method_2_code 0 = .ok (.aload_n 0, 1) := by decide +kernel
theorem d10_1 : decode jdk_68_method_2_code 1 = .ok (.invokespecial 3, 3) := by decide +kernel
theorem d10_4 : decode jdk_68_method_2_code 4 = .ok (.getstatic 18, 3) := by decide +kernel
theorem d10_7 : decode jdk_68_method_2_code 7 = .ok (.ifCond .eq 18, 3) := by decide +kernel
theorem d10_10 : decode jdk_68_method_2_code 10 = .ok (.aload_n 0, 1) := by decide +kernel
theorem d10_11 : decode jdk_68_method_2_code 11 = .ok (.iload_n 1, 1) := by decide +kernel
theorem d10_12 : decode jdk_68_method_2_code 12 = .ok (.newarray .byte, 2) := by decide +kernel
theorem d10_14 : decode jdk_68_method_2_code 14 = .ok (.putfield 15, 3) := by decide +kernel
theorem d10_17 : decode jdk_68_method_2_code 17 = .ok (.aload_n 0, 1) := by decide +kernel
theorem d10_18 : decode jdk_68_method_2_code 18 = .ok (.iconst 0, 1) := by decide +kernel
theorem d10_19 : decode jdk_68_method_2_code 19 = .ok (.putfield 22, 3) := by decide +kernel
theorem d10_22 : decode jdk_68_method_2_code 22 = .ok (.goto 16, 3) := by decide +kernel
theorem d10_38 : decode jdk_68_method_2_code 38 = .ok (.return_, 1) := by decide +kernel
theorem d11_0 : decode jdk_67_method_7_code 0 = .ok (.aload_n 0, 1) := by decide +kernel
theorem d11_1 : decode jdk_67_method_7_code 1 = .ok (.aload_n 1, 1) := by decide +kernel
theorem d11_2 : decode jdk_67_method_7_code 2 = .ok (.invokespecial 29, 3) := by decide +kernel
theorem d11_5 : decode jdk_67_method_7_code 5 = .ok (.pop, 1) := by decide +kernel
theorem d11_6 : decode jdk_67_method_7_code 6 = .ok (.aload_n 0, 1) := by decide +kernel
theorem d11_7 : decode jdk_67_method_7_code 7 = .ok (.areturn, 1) := by decide +kernel
theorem d12_0 : decode jdk_68_method_22_code 0 = .ok (.aload_n 1, 1) := by decide +kernel
theorem d12_1 : decode jdk_68_method_22_code 1 = .ok (.ifnonnull 8, 3) := by decide +kernel
theorem d12_9 : decode jdk_68_method_22_code 9 = .ok (.aload_n 1, 1) := by decide +kernel
theorem d12_10 : decode jdk_68_method_22_code 10 = .ok (.invokevirtual 32, 3) := by decide +kernel
theorem d12_13 : decode jdk_68_method_22_code 13 = .ok (.istore_n 2, 1) := by decide +kernel
theorem d12_14 : decode jdk_68_method_22_code 14 = .ok (.aload_n 0, 1) := by decide +kernel
theorem d12_15 : decode jdk_68_method_22_code 15 = .ok (.aload_n 0, 1) := by decide +kernel
theorem d12_16 : decode jdk_68_method_22_code 16 = .ok (.getfield 79, 3) := by decide +kernel
theorem d12_19 : decode jdk_68_method_22_code 19 = .ok (.iload_n 2, 1) := by decide +kernel
theorem d12_20 : decode jdk_68_method_22_code 20 = .ok (.iadd, 1) := by decide +kernel
theorem d12_21 : decode jdk_68_method_22_code 21 = .ok (.invokevirtual 100, 3) := by decide +kernel
theorem d12_24 : decode jdk_68_method_22_code 24 = .ok (.aload_n 0, 1) := by decide +kernel
theorem d12_25 : decode jdk_68_method_22_code 25 = .ok (.aload_n 0, 1) := by decide +kernel
theorem d12_26 : decode jdk_68_method_22_code 26 = .ok (.getfield 79, 3) := by decide +kernel
theorem d12_29 : decode jdk_68_method_22_code 29 = .ok (.aload_n 1, 1) := by decide +kernel
theorem d12_30 : decode jdk_68_method_22_code 30 = .ok (.invokevirtual 208, 3) := by decide +kernel
theorem d12_33 : decode jdk_68_method_22_code 33 = .ok (.aload_n 0, 1) := by decide +kernel
theorem d12_34 : decode jdk_68_method_22_code 34 = .ok (.dup, 1) := by decide +kernel
theorem d12_35 : decode jdk_68_method_22_code 35 = .ok (.getfield 79, 3) := by decide +kernel
theorem d12_38 : decode jdk_68_method_22_code 38 = .ok (.iload_n 2, 1) := by decide +kernel
theorem d12_39 : decode jdk_68_method_22_code 39 = .ok (.iadd, 1) := by decide +kernel
theorem d12_40 : decode jdk_68_method_22_code 40 = .ok (.putfield 79, 3) := by decide +kernel
theorem d12_43 : decode jdk_68_method_22_code 43 = .ok (.aload_n 0, 1) := by decide +kernel
theorem d12_44 : decode jdk_68_method_22_code 44 = .ok (.areturn, 1) := by decide +kernel
theorem d14_0 : decode jdk_42_method_152_code 0 = .ok (.getstatic 38, 3) := by decide +kernel
theorem d14_3 : decode jdk_42_method_152_code 3 = .ok (.ifCond .eq 10, 3) := by decide +kernel
theorem d14_6 : decode jdk_42_method_152_code 6 = .ok (.aload_n 0, 1) := by decide +kernel
theorem d14_7 : decode jdk_42_method_152_code 7 = .ok (.getfield 15, 3) := by decide +kernel
theorem d14_10 : decode jdk_42_method_152_code 10 = .ok (.goto 4, 3) := by decide +kernel
theorem d14_14 : decode jdk_42_method_152_code 14 = .ok (.ireturn, 1) := by decide +kernel
theorem d15_0 : decode jdk_68_method_9_code 0 = .ok (.aload_n 0, 1) := by decide +kernel
theorem d15_1 : decode jdk_68_method_9_code 1 = .ok (.getfield 15, 3) := by decide +kernel
theorem d15_4 : decode jdk_68_method_9_code 4 = .ok (.arraylength, 1) := by decide +kernel
theorem d15_5 : decode jdk_68_method_9_code 5 = .ok (.aload_n 0, 1) := by decide +kernel
theorem d15_6 : decode jdk_68_method_9_code 6 = .ok (.getfield 22, 3) := by decide +kernel
theorem d15_9 : decode jdk_68_method_9_code 9 = .ok (.ishr, 1) := by decide +kernel
theorem d15_10 : decode jdk_68_method_9_code 10 = .ok (.istore_n 2, 1) := by decide +kernel
theorem d15_11 : decode jdk_68_method_9_code 11 = .ok (.iload_n 1, 1) := by decide +kernel
theorem d15_12 : decode jdk_68_method_9_code 12 = .ok (.iload_n 2, 1) := by decide +kernel
theorem d15_13 : decode jdk_68_method_9_code 13 = .ok (.isub, 1) := by decide +kernel
theorem d15_14 : decode jdk_68_method_9_code 14 = .ok (.ifCond .le 24, 3) := by decide +kernel
theorem d15_17 : decode jdk_68_method_9_code 17 = .ok (.aload_n 0, 1) := by decide +kernel
theorem d15_18 : decode jdk_68_method_9_code 18 = .ok (.aload_n 0, 1) := by decide +kernel
theorem d15_19 : decode jdk_68_method_9_code 19 = .ok (.getfield 15, 3) := by decide +kernel
theorem d15_22 : decode jdk_68_method_9_code 22 = .ok (.aload_n 0, 1) := by decide +kernel
theorem d15_23 : decode jdk_68_method_9_code 23 = .ok (.iload_n 1, 1) := by decide +kernel
theorem d15_24 : decode jdk_68_method_9_code 24 = .ok (.invokevirtual 104, 3) := by decide +kernel
theorem d15_27 : decode jdk_68_method_9_code 27 = .ok (.aload_n 0, 1) := by decide +kernel
theorem d15_28 : decode jdk_68_method_9_code 28 = .ok (.getfield 22, 3) := by decide +kernel
theorem d15_31 : decode jdk_68_method_9_code 31 = .ok (.ishl, 1) := by decide +kernel
theorem d15_32 : decode jdk_68_method_9_code 32 = .ok (.invokestatic 108, 3) := by decide +kernel
theorem d15_35 : decode jdk_68_method_9_code 35 = .ok (.putfield 15, 3) := by decide +kernel
theorem d15_38 : decode jdk_68_method_9_code 38 = .ok (.return_, 1) := by decide +kernel
theorem d16_0 : decode jdk_68_method_10_code 0 = .ok (.aload_n 0, 1) := by decide +kernel
theorem d16_1 : decode jdk_68_method_10_code 1 = .ok (.getfield 15, 3) := by decide +kernel
theorem d16_4 : decode jdk_68_method_10_code 4 = .ok (.arraylength, 1) := by decide +kernel
theorem d16_5 : decode jdk_68_method_10_code 5 = .ok (.istore_n 2, 1) := by decide +kernel
theorem d16_6 : decode jdk_68_method_10_code 6 = .ok (.iload_n 1, 1) := by decide +kernel
theorem d16_7 : decode jdk_68_method_10_code 7 = .ok (.aload_n 0, 1) := by decide +kernel
theorem d16_8 : decode jdk_68_method_10_code 8 = .ok (.getfield 22, 3) := by decide +kernel
theorem d16_11 : decode jdk_68_method_10_code 11 = .ok (.ishl, 1) := by decide +kernel
theorem d16_12 : decode jdk_68_method_10_code 12 = .ok (.istore_n 3, 1) := by decide +kernel
theorem d16_13 : decode jdk_68_method_10_code 13 = .ok (.iload_n 3, 1) := by decide +kernel
theorem d16_14 : decode jdk_68_method_10_code 14 = .ok (.iload_n 2, 1) := by decide +kernel
theorem d16_15 : decode jdk_68_method_10_code 15 = .ok (.isub, 1) := by decide +kernel
theorem d16_16 : decode jdk_68_method_10_code 16 = .ok (.istore 4, 2) := by decide +kernel
theorem d16_18 : decode jdk_68_method_10_code 18 = .ok (.iload_n 2, 1) := by decide +kernel
theorem d16_19 : decode jdk_68_method_10_code 19 = .ok (.iload 4, 2) := by decide +kernel
theorem d16_21 : decode jdk_68_method_10_code 21 = .ok (.iload_n 2, 1) := by decide +kernel
theorem d16_22 : decode jdk_68_method_10_code 22 = .ok (.iconst 2, 1) := by decide +kernel
theorem d16_23 : decode jdk_68_method_10_code 23 = .ok (.aload_n 0, 1) := by decide +kernel
theorem d16_24 : decode jdk_68_method_10_code 24 = .ok (.getfield 22, 3) := by decide +kernel
theorem d16_27 : decode jdk_68_method_10_code 27 = .ok (.ishl, 1) := by decide +kernel
theorem d16_28 : decode jdk_68_method_10_code 28 = .ok (.iadd, 1) := by decide +kernel
theorem d16_29 : decode jdk_68_method_10_code 29 = .ok (.invokestatic 114, 3) := by decide +kernel
theorem d16_32 : decode jdk_68_method_10_code 32 = .ok (.istore 5, 2) := by decide +kernel
theorem d16_34 : decode jdk_68_method_10_code 34 = .ok (.iload 5, 2) := by decide +kernel
theorem d16_36 : decode jdk_68_method_10_code 36 = .ok (.ldc 39, 2) := by decide +kernel
theorem d16_38 : decode jdk_68_method_10_code 38 = .ok (.if_icmp .ne 13, 3) := by decide +kernel
theorem d16_51 : decode jdk_68_method_10_code 51 = .ok (.iload 5, 2) := by decide +kernel
theorem d16_53 : decode jdk_68_method_10_code 53 = .ok (.aload_n 0, 1) := by decide +kernel
theorem d16_54 : decode jdk_68_method_10_code 54 = .ok (.getfield 22, 3) := by decide +kernel
theorem d16_57 : decode jdk_68_method_10_code 57 = .ok (.ishr, 1) := by decide +kernel
theorem d16_58 : decode jdk_68_method_10_code 58 = .ok (.ireturn, 1) := by decide +kernel
theorem d17_0 : decode jdk_48_method_27_code 0 = .ok (.iload_n 0, 1) := by decide +kernel
theorem d17_1 : decode jdk_48_method_27_code 1 = .ok (.iload_n 1, 1) := by decide +kernel
theorem d17_2 : decode jdk_48_method_27_code 2 = .ok (.iload_n 2, 1) := by decide +kernel
theorem d17_3 : decode jdk_48_method_27_code 3 = .ok (.invokestatic 194, 3) := by decide +kernel
theorem d17_6 : decode jdk_48_method_27_code 6 = .ok (.iadd, 1) := by decide +kernel
theorem d17_7 : decode jdk_48_method_27_code 7 = .ok (.istore_n 3, 1) := by decide +kernel
theorem d17_8 : decode jdk_48_method_27_code 8 = .ok (.iconst 0, 1) := by decide +kernel
theorem d17_9 : decode jdk_48_method_27_code 9 = .ok (.iload_n 3, 1) := by decide +kernel
theorem d17_10 : decode jdk_48_method_27_code 10 = .ok (.if_icmp .ge 11, 3) := by decide +kernel
theorem d17_13 : decode jdk_48_method_27_code 13 = .ok (.iload_n 3, 1) := by decide +kernel
theorem d17_14 : decode jdk_48_method_27_code 14 = .ok (.ldc 200, 2) := by decide +kernel
theorem d17_16 : decode jdk_48_method_27_code 16 = .ok (.if_icmp .gt 5, 3) := by decide +kernel
theorem d17_19 : decode jdk_48_method_27_code 19 = .ok (.iload_n 3, 1) := by decide +kernel
theorem d17_20 : decode jdk_48_method_27_code 20 = .ok (.ireturn, 1) := by decide +kernel
theorem d18_0 : decode jdk_29_method_65_code 0 = .ok (.iload_n 0, 1) := by decide +kernel
theorem d18_1 : decode jdk_29_method_65_code 1 = .ok (.iload_n 1, 1) := by decide +kernel
theorem d18_2 : decode jdk_29_method_65_code 2 = .ok (.if_icmp .lt 7, 3) := by decide +kernel
theorem d18_5 : decode jdk_29_method_65_code 5 = .ok (.iload_n 0, 1) := by decide +kernel
theorem d18_6 : decode jdk_29_method_65_code 6 = .ok (.goto 4, 3) := by decide +kernel
theorem d18_9 : decode jdk_29_method_65_code 9 = .ok (.iload_n 1, 1) := by decide +kernel
theorem d18_10 : decode jdk_29_method_65_code 10 = .ok (.ireturn, 1) := by decide +kernel
theorem d19_0 : decode jdk_65_method_121_code 0 = .ok (.iload_n 1, 1) := by decide +kernel
theorem d19_1 : decode jdk_65_method_121_code 1 = .ok (.aload_n 0, 1) := by decide +kernel
theorem d19_2 : decode jdk_65_method_121_code 2 = .ok (.arraylength, 1) := by decide +kernel
theorem d19_3 : decode jdk_65_method_121_code 3 = .ok (.if_icmp .ne 11, 3) := by decide +kernel
theorem d19_14 : decode jdk_65_method_121_code 14 = .ok (.iload_n 1, 1) := by decide +kernel
theorem d19_15 : decode jdk_65_method_121_code 15 = .ok (.newarray .byte, 2) := by decide +kernel
theorem d19_17 : decode jdk_65_method_121_code 17 = .ok (.astore_n 2, 1) := by decide +kernel
theorem d19_18 : decode jdk_65_method_121_code 18 = .ok (.aload_n 0, 1) := by decide +kernel
theorem d19_19 : decode jdk_65_method_121_code 19 = .ok (.iconst 0, 1) := by decide +kernel
theorem d19_20 : decode jdk_65_method_121_code 20 = .ok (.aload_n 2, 1) := by decide +kernel
theorem d19_21 : decode jdk_65_method_121_code 21 = .ok (.iconst 0, 1) := by decide +kernel
theorem d19_22 : decode jdk_65_method_121_code 22 = .ok (.aload_n 0, 1) := by decide +kernel
theorem d19_23 : decode jdk_65_method_121_code 23 = .ok (.arraylength, 1) := by decide +kernel
theorem d19_24 : decode jdk_65_method_121_code 24 = .ok (.iload_n 1, 1) := by decide +kernel
theorem d19_25 : decode jdk_65_method_121_code 25 = .ok (.invokestatic 304, 3) := by decide +kernel
theorem d19_28 : decode jdk_65_method_121_code 28 = .ok (.invokestatic 150, 3) := by decide +kernel
theorem d19_31 : decode jdk_65_method_121_code 31 = .ok (.aload_n 2, 1) := by decide +kernel
theorem d19_32 : decode jdk_65_method_121_code 32 = .ok (.areturn, 1) := by decide +kernel
theorem d20_0 : decode jdk_29_method_69_code 0 = .ok (.iload_n 0, 1) := by decide +kernel
theorem d20_1 : decode jdk_29_method_69_code 1 = .ok (.iload_n 1, 1) := by decide +kernel
theorem d20_2 : decode jdk_29_method_69_code 2 = .ok (.if_icmp .gt 7, 3) := by decide +kernel
theorem d20_5 : decode jdk_29_method_69_code 5 = .ok (.iload_n 0, 1) := by decide +kernel
theorem d20_6 : decode jdk_29_method_69_code 6 = .ok (.goto 4, 3) := by decide +kernel
theorem d20_9 : decode jdk_29_method_69_code 9 = .ok (.iload_n 1, 1) := by decide +kernel
theorem d20_10 : decode jdk_29_method_69_code 10 = .ok (.ireturn, 1) := by decide +kernel
theorem d21_0 : decode jdk_68_method_73_code 0 = .ok (.aload_n 0, 1) := by decide +kernel
theorem d21_1 : decode jdk_68_method_73_code 1 = .ok (.aload_n 2, 1) := by decide +kernel
theorem d21_2 : decode jdk_68_method_73_code 2 = .ok (.invokevirtual 397, 3) := by decide +kernel
theorem d21_5 : decode jdk_68_method_73_code 5 = .ok (.aload_n 2, 1) := by decide +kernel
theorem d21_6 : decode jdk_68_method_73_code 6 = .ok (.aload_n 0, 1) := by decide +kernel
theorem d21_7 : decode jdk_68_method_73_code 7 = .ok (.getfield 15, 3) := by decide +kernel
theorem d21_10 : decode jdk_68_method_73_code 10 = .ok (.iload_n 1, 1) := by decide +kernel
theorem d21_11 : decode jdk_68_method_73_code 11 = .ok (.aload_n 0, 1) := by decide +kernel
theorem d21_12 : decode jdk_68_method_73_code 12 = .ok (.getfield 22, 3) := by decide +kernel
theorem d21_15 : decode jdk_68_method_73_code 15 = .ok (.invokevirtual 399, 3) := by decide +kernel
theorem d21_18 : decode jdk_68_method_73_code 18 = .ok (.return_, 1) := by decide +kernel
theorem d22_0 : decode jdk_68_method_71_code 0 = .ok (.getstatic 18, 3) := by decide +kernel
theorem d22_3 : decode jdk_68_method_71_code 3 = .ok (.ifCond .eq 18, 3) := by decide +kernel
theorem d22_6 : decode jdk_68_method_71_code 6 = .ok (.aload_n 0, 1) := by decide +kernel
theorem d22_7 : decode jdk_68_method_71_code 7 = .ok (.getfield 22, 3) := by decide +kernel
theorem d22_10 : decode jdk_68_method_71_code 10 = .ok (.aload_n 1, 1) := by decide +kernel
theorem d22_11 : decode jdk_68_method_71_code 11 = .ok (.invokevirtual 40, 3) := by decide +kernel
theorem d22_14 : decode jdk_68_method_71_code 14 = .ok (.if_icmp .eq 7, 3) := by decide +kernel
theorem d22_21 : decode jdk_68_method_71_code 21 = .ok (.return_, 1) := by decide +kernel
theorem d23_0 : decode jdk_42_method_147_code 0 = .ok (.aload_n 0, 1) := by decide +kernel
theorem d23_1 : decode jdk_42_method_147_code 1 = .ok (.invokevirtual 335, 3) := by decide +kernel
theorem d23_4 : decode jdk_42_method_147_code 4 = .ok (.iload_n 3, 1) := by decide +kernel
theorem d23_5 : decode jdk_42_method_147_code 5 = .ok (.if_icmp .ne 23, 3) := by decide +kernel
theorem d23_8 : decode jdk_42_method_147_code 8 = .ok (.aload_n 0, 1) := by decide +kernel
theorem d23_9 : decode jdk_42_method_147_code 9 = .ok (.getfield 9, 3) := by decide +kernel
theorem d23_12 : decode jdk_42_method_147_code 12 = .ok (.iconst 0, 1) := by decide +kernel
theorem d23_13 : decode jdk_42_method_147_code 13 = .ok (.aload_n 1, 1) := by decide +kernel
theorem d23_14 : decode jdk_42_method_147_code 14 = .ok (.iload_n 2, 1) := by decide +kernel
theorem d23_15 : decode jdk_42_method_147_code 15 = .ok (.iload_n 3, 1) := by decide +kernel
theorem d23_16 : decode jdk_42_method_147_code 16 = .ok (.ishl, 1) := by decide +kernel
theorem d23_17 : decode jdk_42_method_147_code 17 = .ok (.aload_n 0, 1) := by decide +kernel
theorem d23_18 : decode jdk_42_method_147_code 18 = .ok (.getfield 9, 3) := by decide +kernel
theorem d23_21 : decode jdk_42_method_147_code 21 = .ok (.arraylength, 1) := by decide +kernel
theorem d23_22 : decode jdk_42_method_147_code 22 = .ok (.invokestatic 212, 3) := by decide +kernel
theorem d23_25 : decode jdk_42_method_147_code 25 = .ok (.goto 18, 3) := by decide +kernel
theorem d23_43 : decode jdk_42_method_147_code 43 = .ok (.return_, 1) := by decide +kernel
theorem d24_0 : decode jdk_67_method_42_code 0 = .ok (.new 18, 3) := by decide +kernel
theorem d24_3 : decode jdk_67_method_42_code 3 = .ok (.dup, 1) := by decide +kernel
theorem d24_4 : decode jdk_67_method_42_code 4 = .ok (.aload_n 0, 1) := by decide +kernel
theorem d24_5 : decode jdk_67_method_42_code 5 = .ok (.invokespecial 137, 3) := by decide +kernel
theorem d24_8 : decode jdk_67_method_42_code 8 = .ok (.areturn, 1) := by decide +kernel
theorem d25_0 : decode jdk_42_method_53_code 0 = .ok (.aload_n 0, 1) := by decide +kernel
theorem d25_1 : decode jdk_42_method_53_code 1 = .ok (.aload_n 1, 1) := by decide +kernel
theorem d25_2 : decode jdk_42_method_53_code 2 = .ok (.aconst_null, 1) := by decide +kernel
theorem d25_3 : decode jdk_42_method_53_code 3 = .ok (.invokespecial 489, 3) := by decide +kernel
theorem d25_6 : decode jdk_42_method_53_code 6 = .ok (.return_, 1) := by decide +kernel
theorem d26_0 : decode jdk_42_method_150_code 0 = .ok (.aload_n 0, 1) := by decide +kernel
theorem d26_1 : decode jdk_42_method_150_code 1 = .ok (.invokespecial 1, 3) := by decide +kernel
theorem d26_4 : decode jdk_42_method_150_code 4 = .ok (.aload_n 1, 1) := by decide +kernel
theorem d26_5 : decode jdk_42_method_150_code 5 = .ok (.invokevirtual 552, 3) := by decide +kernel
theorem d26_8 : decode jdk_42_method_150_code 8 = .ok (.astore_n 3, 1) := by decide +kernel
theorem d26_9 : decode jdk_42_method_150_code 9 = .ok (.aload_n 1, 1) := by decide +kernel
theorem d26_10 : decode jdk_42_method_150_code 10 = .ok (.invokevirtual 549, 3) := by decide +kernel
theorem d26_13 : decode jdk_42_method_150_code 13 = .ok (.istore 4, 2) := by decide +kernel
theorem d26_15 : decode jdk_42_method_150_code 15 = .ok (.aload_n 1, 1) := by decide +kernel
theorem d26_16 : decode jdk_42_method_150_code 16 = .ok (.invokevirtual 1047, 3) := by decide +kernel
theorem d26_19 : decode jdk_42_method_150_code 19 = .ok (.ifCond .eq 22, 3) := by decide +kernel
theorem d26_22 : decode jdk_42_method_150_code 22 = .ok (.aload_n 0, 1) := by decide +kernel
theorem d26_23 : decode jdk_42_method_150_code 23 = .ok (.iconst 0, 1) := by decide +kernel
theorem d26_24 : decode jdk_42_method_150_code 24 = .ok (.putfield 15, 3) := by decide +kernel
theorem d26_27 : decode jdk_42_method_150_code 27 = .ok (.aload_n 0, 1) := by decide +kernel
theorem d26_28 : decode jdk_42_method_150_code 28 = .ok (.aload_n 3, 1) := by decide +kernel
theorem d26_29 : decode jdk_42_method_150_code 29 = .ok (.iconst 0, 1) := by decide +kernel
theorem d26_30 : decode jdk_42_method_150_code 30 = .ok (.iload 4, 2) := by decide +kernel
theorem d26_32 : decode jdk_42_method_150_code 32 = .ok (.invokestatic 54, 3) := by decide +kernel
theorem d26_35 : decode jdk_42_method_150_code 35 = .ok (.putfield 9, 3) := by decide +kernel
theorem d26_38 : decode jdk_42_method_150_code 38 = .ok (.goto 59, 3) := by decide +kernel
theorem d26_97 : decode jdk_42_method_150_code 97 = .ok (.return_, 1) := by decide +kernel
theorem d27_0 : decode jdk_68_method_64_code 0 = .ok (.aload_n 0, 1) := by decide +kernel
theorem d27_1 : decode jdk_68_method_64_code 1 = .ok (.getfield 15, 3) := by decide +kernel
theorem d27_4 : decode jdk_68_method_64_code 4 = .ok (.areturn, 1) := by decide +kernel
theorem d28_0 : decode jdk_67_method_93_code 0 = .ok (.aload_n 0, 1) := by decide +kernel
theorem d28_1 : decode jdk_67_method_93_code 1 = .ok (.invokespecial 343, 3) := by decide +kernel
theorem d28_4 : decode jdk_67_method_93_code 4 = .ok (.ireturn, 1) := by decide +kernel
theorem d29_0 : decode jdk_68_method_6_code 0 = .ok (.aload_n 0, 1) := by decide +kernel
theorem d29_1 : decode jdk_68_method_6_code 1 = .ok (.getfield 79, 3) := by decide +kernel
theorem d29_4 : decode jdk_68_method_6_code 4 = .ok (.ireturn, 1) := by decide +kernel
theorem d30_0 : decode jdk_68_method_68_code 0 = .ok (.getstatic 18, 3) := by decide +kernel
theorem d30_3 : decode jdk_68_method_68_code 3 = .ok (.ifCond .eq 14, 3) := by decide +kernel
theorem d30_6 : decode jdk_68_method_68_code 6 = .ok (.aload_n 0, 1) := by decide +kernel
theorem d30_7 : decode jdk_68_method_68_code 7 = .ok (.getfield 22, 3) := by decide +kernel
theorem d30_10 : decode jdk_68_method_68_code 10 = .ok (.ifCond .ne 7, 3) := by decide +kernel
theorem d30_13 : decode jdk_68_method_68_code 13 = .ok (.iconst 1, 1) := by decide +kernel
theorem d30_14 : decode jdk_68_method_68_code 14 = .ok (.goto 4, 3) := by decide +kernel
theorem d30_18 : decode jdk_68_method_68_code 18 = .ok (.ireturn, 1) := by decide +kernel
theorem d31_0 : decode jdk_65_method_132_code 0 = .ok (.iload_n 1, 1) := by decide +kernel
theorem d31_1 : decode jdk_65_method_132_code 1 = .ok (.ifCond .ne 9, 3) := by decide +kernel
theorem d31_4 : decode jdk_65_method_132_code 4 = .ok (.iload_n 2, 1) := by decide +kernel
theorem d31_5 : decode jdk_65_method_132_code 5 = .ok (.aload_n 0, 1) := by decide +kernel
theorem d31_6 : decode jdk_65_method_132_code 6 = .ok (.arraylength, 1) := by decide +kernel
theorem d31_7 : decode jdk_65_method_132_code 7 = .ok (.if_icmp .eq 10, 3) := by decide +kernel
theorem d31_17 : decode jdk_65_method_132_code 17 = .ok (.aload_n 0, 1) := by decide +kernel
theorem d31_18 : decode jdk_65_method_132_code 18 = .ok (.invokevirtual 310, 3) := by decide +kernel
theorem d31_21 : decode jdk_65_method_132_code 21 = .ok (.checkcast 311, 3) := by decide +kernel
theorem d31_24 : decode jdk_65_method_132_code 24 = .ok (.areturn, 1) := by decide +kernel
theorem d32_0 : decode jdk_60_method_2_code 0 = .ok (.aload_n 0, 1) := by decide +kernel
theorem d32_1 : decode jdk_60_method_2_code 1 = .ok (.aload_n 1, 1) := by decide +kernel
theorem d32_2 : decode jdk_60_method_2_code 2 = .ok (.invokespecial 7, 3) := by decide +kernel
theorem d32_5 : decode jdk_60_method_2_code 5 = .ok (.return_, 1) := by decide +kernel
theorem d33_0 : decode jdk_58_method_2_code 0 = .ok (.aload_n 0, 1) := by decide +kernel
theorem d33_1 : decode jdk_58_method_2_code 1 = .ok (.aload_n 1, 1) := by decide +kernel
theorem d33_2 : decode jdk_58_method_2_code 2 = .ok (.invokespecial 7, 3) := by decide +kernel
theorem d33_5 : decode jdk_58_method_2_code 5 = .ok (.return_, 1) := by decide +kernel
theorem d34_0 : decode jdk_59_method_2_code 0 = .ok (.aload_n 0, 1) := by decide +kernel
theorem d34_1 : decode jdk_59_method_2_code 1 = .ok (.aload_n 1, 1) := by decide +kernel
theorem d34_2 : decode jdk_59_method_2_code 2 = .ok (.invokespecial 7, 3) := by decide +kernel
theorem d34_5 : decode jdk_59_method_2_code 5 = .ok (.return_, 1) := by decide +kernel
theorem d35_0 : decode jdk_78_method_2_code 0 = .ok (.aload_n 0, 1) := by decide +kernel
theorem d35_1 : decode jdk_78_method_2_code 1 = .ok (.invokespecial 1, 3) := by decide +kernel
theorem d35_4 : decode jdk_78_method_2_code 4 = .ok (.aload_n 0, 1) := by decide +kernel
theorem d35_5 : decode jdk_78_method_2_code 5 = .ok (.aload_n 0, 1) := by decide +kernel
theorem d35_6 : decode jdk_78_method_2_code 6 = .ok (.putfield 7, 3) := by decide +kernel
theorem d35_9 : decode jdk_78_method_2_code 9 = .ok (.aload_n 0, 1) := by decide +kernel
theorem d35_10 : decode jdk_78_method_2_code 10 = .ok (.getstatic 13, 3) := by decide +kernel
theorem d35_13 : decode jdk_78_method_2_code 13 = .ok (.putfield 17, 3) := by decide +kernel
theorem d35_16 : decode jdk_78_method_2_code 16 = .ok (.aload_n 0, 1) := by decide +kernel
theorem d35_17 : decode jdk_78_method_2_code 17 = .ok (.getstatic 20, 3) := by decide +kernel
theorem d35_20 : decode jdk_78_method_2_code 20 = .ok (.putfield 24, 3) := by decide +kernel
theorem d35_23 : decode jdk_78_method_2_code 23 = .ok (.aload_n 0, 1) := by decide +kernel
theorem d35_24 : decode jdk_78_method_2_code 24 = .ok (.invokevirtual 27, 3) := by decide +kernel
theorem d35_27 : decode jdk_78_method_2_code 27 = .ok (.pop, 1) := by decide +kernel
theorem d35_28 : decode jdk_78_method_2_code 28 = .ok (.aload_n 0, 1) := by decide +kernel
theorem d35_29 : decode jdk_78_method_2_code 29 = .ok (.aload_n 1, 1) := by decide +kernel
theorem d35_30 : decode jdk_78_method_2_code 30 = .ok (.putfield 31, 3) := by decide +kernel
theorem d35_33 : decode jdk_78_method_2_code 33 = .ok (.return_, 1) := by decide +kernel
theorem d37_0 : decode jdk_78_method_6_code 0 = .ok (.aload_n 0, 1) := by decide +kernel
theorem d37_1 : decode jdk_78_method_6_code 1 = .ok (.getfield 31, 3) := by decide +kernel
theorem d37_4 : decode jdk_78_method_6_code 4 = .ok (.areturn, 1) := by decide +kernel
theorem pd_0 : parseMethodDescriptor "(II)I" = some ⟨[.int, .int], some .int⟩ := by decide +kernel
theorem pd_1 : parseMethodDescriptor "(III)I" = some ⟨[.int, .int, .int], some .int⟩ := by decide +kernel
theorem pd_2 : parseMethodDescriptor "(I)I" = some ⟨[.int], some .int⟩ := by decide +kernel
theorem pd_3 : parseMethodDescriptor "([BI)[B" = some ⟨[(.array .byte), .int], some (.array .byte)⟩ := by decide +kernel
theorem pd_4 : parseMethodDescriptor "()B" = some ⟨[], some .byte⟩ := by decide +kernel
theorem pd_5 : parseMethodDescriptor "(Ljava/lang/String;)V" = some ⟨[(.object "java/lang/String")], none⟩ := by decide +kernel
theorem pd_6 : parseMethodDescriptor "([BIB)V" = some ⟨[(.array .byte), .int, .byte], none⟩ := by decide +kernel
theorem pd_7 : parseMethodDescriptor "()I" = some ⟨[], some .int⟩ := by decide +kernel
theorem pd_8 : parseMethodDescriptor "(I)V" = some ⟨[.int], none⟩ := by decide +kernel
theorem pd_9 : parseMethodDescriptor "(ILjava/lang/String;)V" = some ⟨[.int, (.object "java/lang/String")], none⟩ := by decide +kernel
theorem pd_10 : parseMethodDescriptor "(Ljava/lang/String;)Ljava/lang/AbstractStringBuilder;" = some ⟨[(.object "java/lang/String")], some (.object "java/lang/AbstractStringBuilder")⟩ := by decide +kernel
theorem pd_11 : parseMethodDescriptor "()[B" = some ⟨[], some (.array .byte)⟩ := by decide +kernel
theorem pd_12 : parseMethodDescriptor "()Z" = some ⟨[], some .boolean⟩ := by decide +kernel
theorem pd_13 : parseMethodDescriptor "([BII)[B" = some ⟨[(.array .byte), .int, .int], some (.array .byte)⟩ := by decide +kernel
theorem pd_14 : parseMethodDescriptor "(Ljava/lang/AbstractStringBuilder;Ljava/lang/Void;)V" = some ⟨[(.object "java/lang/AbstractStringBuilder"), (.object "java/lang/Void")], none⟩ := by decide +kernel
theorem pd_15 : parseMethodDescriptor "(Ljava/lang/StringBuilder;)V" = some ⟨[(.object "java/lang/StringBuilder")], none⟩ := by decide +kernel
theorem pd_16 : parseMethodDescriptor "()V" = some ⟨[], none⟩ := by decide +kernel
theorem pd_17 : parseMethodDescriptor "(Ljava/lang/String;)Ljava/lang/StringBuilder;" = some ⟨[(.object "java/lang/String")], some (.object "java/lang/StringBuilder")⟩ := by decide +kernel
theorem pd_18 : parseMethodDescriptor "()Ljava/lang/String;" = some ⟨[], some (.object "java/lang/String")⟩ := by decide +kernel
theorem pd_19 : parseMethodDescriptor "([CIILjava/lang/Void;)V" = some ⟨[(.array .char), .int, .int, (.object "java/lang/Void")], none⟩ := by decide +kernel
theorem pd_20 : parseMethodDescriptor "([C)V" = some ⟨[(.array .char)], none⟩ := by decide +kernel
theorem pd_21 : parseMethodDescriptor "(I)Ljava/lang/String;" = some ⟨[.int], some (.object "java/lang/String")⟩ := by decide +kernel
theorem pd_22 : parseMethodDescriptor "(Ljava/lang/String;Ljava/lang/String;)Ljava/lang/IllegalStateException;" = some ⟨[(.object "java/lang/String"), (.object "java/lang/String")], some (.object "java/lang/IllegalStateException")⟩ := by decide +kernel
theorem pd_23 : parseMethodDescriptor "(I)C" = some ⟨[.int], some .char⟩ := by decide +kernel
theorem own_wi {Z : State} {a0 : Array Value} (hw : ∀ d ∈ tables_1, d.before a0 Z = true) : ∀ d ∈ StrChars.Road.words, d.before a0 Z = true := fun d hd => hw d ((by decide +kernel : ∀ d ∈ StrChars.Road.words, d ∈ tables_1) d hd)
theorem own_wl {Z : State} {a0 : Array Value} (hw : ∀ d ∈ tables_1, d.before a0 Z = true) : ∀ d ∈ StrChars.Road.wordsLen, d.before a0 Z = true := fun d hd => hw d ((by decide +kernel : ∀ d ∈ StrChars.Road.wordsLen, d ∈ tables_1) d hd)
theorem own_wch {Z : State} {a0 : Array Value} (hw : ∀ d ∈ tables_1, d.before a0 Z = true) : ∀ d ∈ StrChars.Road.wordsChN, d.before a0 Z = true := fun d hd => hw d ((by decide +kernel : ∀ d ∈ StrChars.Road.wordsChN, d ∈ tables_1) d hd)
set_option maxRecDepth 65536 in
set_option maxHeartbeats 40000000 in
theorem rmMaxN (l : Launch) (Z : State) (a0 : Array Value) (hw : ∀ d ∈ tables_1, d.before a0 Z = true) (a b : Nat) (h0 : Heap) (O0 : Old Z Z.heap.size h0) (la : a < 2147483648) (lb : b < 2147483648) :
    own_NC l Z (⟨"java/lang/Math", "max", "(II)I"⟩ : MethodName) jdk_29_method_65_code 2 (some .int) ({ frames := 0, cells := 0, slots := 0, locals := 0 } : Room) #[(.int (Int32.ofNat a)), (.int (Int32.ofNat b))] h0 (fun v h => v = some (.int (Int32.ofNat (max a b))) ∧ h = h0) := by
  refine own_nc (Jvm.Free.JP.mathPlain rfl (by decide +kernel)) ?_
  intro p e s m below meth c s₁ S0 X0 hx hby hml hret hnm hown hZ e0 cc
  have N0 := Fr.nil Z.heap.size
  have c0 : Steps p.tables e below S0 (s₁.setTop (mkF m 0 #[.val (.int (Int32.ofNat a)), .val (.int (Int32.ofNat b))] [])) := cc.trans (XT.entry rfl)
  have c1 : Steps p.tables e below S0 (s₁.setTop (mkF m 2 #[.val (.int (Int32.ofNat a)), .val (.int (Int32.ofNat b))] [(.int (Int32.ofNat b)), (.int (Int32.ofNat a))])) := c0.trans (by
    refine XS.iloadN X0.here hx rfl (hb hby d18_0) rfl ?_
    refine XS.iloadN X0.here hx rfl (hb hby d18_1) rfl ?_
    exact Steps.refl _)
  by_cases hc2 : (Int32.ofNat a) < (Int32.ofNat b)
  · skip
    have c3 : Steps p.tables e below S0 (s₁.setTop (mkF m 10 #[.val (.int (Int32.ofNat a)), .val (.int (Int32.ofNat b))] [(.int (Int32.ofNat b))])) := c1.trans (by
      refine XS.icmpYes X0.here hx rfl (pc0 := 2) (pc' := 9) rfl (hb hby d18_2) rfl (tlt hc2).1 (by decide) (by decide) ?_
      refine XS.iloadN X0.here hx rfl (hb hby d18_9) rfl ?_
      exact Steps.refl _)
    refine ⟨s₁, (some (.int (Int32.ofNat b))), _, _, _, X0, by decide, by decide, (fun q => by cases q), N0, ?_, fun fs hr => ?_⟩
    · rw [e0]
      exact ⟨by rw [← own_maxN la lb]; simp [hc2], rfl⟩
    · exact c3.trans (retI X0 hx hret (hb hby d18_10) hr)
  · skip
    have c5 : Steps p.tables e below S0 (s₁.setTop (mkF m 10 #[.val (.int (Int32.ofNat a)), .val (.int (Int32.ofNat b))] [(.int (Int32.ofNat a))])) := c1.trans (by
      refine XS.icmpNo X0.here hx rfl (hb hby d18_2) rfl (flt hc2).1 ?_
      refine XS.iloadN X0.here hx rfl (hb hby d18_5) rfl ?_
      refine XS.goto X0.here hx rfl (pc0 := 6) (pc' := 10) rfl (hb hby d18_6) (by decide) (by decide) ?_
      exact Steps.refl _)
    refine ⟨s₁, (some (.int (Int32.ofNat a))), _, _, _, X0, by decide, by decide, (fun q => by cases q), N0, ?_, fun fs hr => ?_⟩
    · rw [e0]
      exact ⟨by rw [← own_maxN la lb]; simp [hc2], rfl⟩
    · exact c5.trans (retI X0 hx hret (hb hby d18_10) hr)
set_option maxRecDepth 65536 in
set_option maxHeartbeats 40000000 in
theorem rmMinN (l : Launch) (Z : State) (a0 : Array Value) (hw : ∀ d ∈ tables_1, d.before a0 Z = true) (a b : Nat) (h0 : Heap) (O0 : Old Z Z.heap.size h0) (la : a < 2147483648) (lb : b < 2147483648) :
    own_NC l Z (⟨"java/lang/Math", "min", "(II)I"⟩ : MethodName) jdk_29_method_69_code 2 (some .int) ({ frames := 0, cells := 0, slots := 0, locals := 0 } : Room) #[(.int (Int32.ofNat a)), (.int (Int32.ofNat b))] h0 (fun v h => v = some (.int (Int32.ofNat (min a b))) ∧ h = h0) := by
  refine own_nc (Jvm.Free.JP.mathPlain rfl (by decide +kernel)) ?_
  intro p e s m below meth c s₁ S0 X0 hx hby hml hret hnm hown hZ e0 cc
  have N0 := Fr.nil Z.heap.size
  have c0 : Steps p.tables e below S0 (s₁.setTop (mkF m 0 #[.val (.int (Int32.ofNat a)), .val (.int (Int32.ofNat b))] [])) := cc.trans (XT.entry rfl)
  have c1 : Steps p.tables e below S0 (s₁.setTop (mkF m 2 #[.val (.int (Int32.ofNat a)), .val (.int (Int32.ofNat b))] [(.int (Int32.ofNat b)), (.int (Int32.ofNat a))])) := c0.trans (by
    refine XS.iloadN X0.here hx rfl (hb hby d20_0) rfl ?_
    refine XS.iloadN X0.here hx rfl (hb hby d20_1) rfl ?_
    exact Steps.refl _)
  by_cases hc2 : (Int32.ofNat b) < (Int32.ofNat a)
  · skip
    have c3 : Steps p.tables e below S0 (s₁.setTop (mkF m 10 #[.val (.int (Int32.ofNat a)), .val (.int (Int32.ofNat b))] [(.int (Int32.ofNat b))])) := c1.trans (by
      refine XS.icmpYes X0.here hx rfl (pc0 := 2) (pc' := 9) rfl (hb hby d20_2) rfl (tlt hc2).2.2.1 (by decide) (by decide) ?_
      refine XS.iloadN X0.here hx rfl (hb hby d20_9) rfl ?_
      exact Steps.refl _)
    refine ⟨s₁, (some (.int (Int32.ofNat b))), _, _, _, X0, by decide, by decide, (fun q => by cases q), N0, ?_, fun fs hr => ?_⟩
    · rw [e0]
      exact ⟨by rw [← own_minN la lb]; simp [hc2], rfl⟩
    · exact c3.trans (retI X0 hx hret (hb hby d20_10) hr)
  · skip
    have c5 : Steps p.tables e below S0 (s₁.setTop (mkF m 10 #[.val (.int (Int32.ofNat a)), .val (.int (Int32.ofNat b))] [(.int (Int32.ofNat a))])) := c1.trans (by
      refine XS.icmpNo X0.here hx rfl (hb hby d20_2) rfl (flt hc2).2.2.1 ?_
      refine XS.iloadN X0.here hx rfl (hb hby d20_5) rfl ?_
      refine XS.goto X0.here hx rfl (pc0 := 6) (pc' := 10) rfl (hb hby d20_6) (by decide) (by decide) ?_
      exact Steps.refl _)
    refine ⟨s₁, (some (.int (Int32.ofNat a))), _, _, _, X0, by decide, by decide, (fun q => by cases q), N0, ?_, fun fs hr => ?_⟩
    · rw [e0]
      exact ⟨by rw [← own_minN la lb]; simp [hc2], rfl⟩
    · exact c5.trans (retI X0 hx hret (hb hby d20_10) hr)
set_option maxRecDepth 65536 in
set_option maxHeartbeats 40000000 in
theorem rmNL (l : Launch) (Z : State) (a0 : Array Value) (hw : ∀ d ∈ tables_1, d.before a0 Z = true) (L g k : Nat) (h0 : Heap) (O0 : Old Z Z.heap.size h0) (hs : L + max g k ≤ 100000) (hp : 0 < L + max g k) :
    own_NC l Z (⟨"jdk/internal/util/ArraysSupport", "newLength", "(III)I"⟩ : MethodName) jdk_48_method_27_code 4 (some .int) ({ frames := 1, cells := 0, slots := 0, locals := 14 } : Room) #[(.int (Int32.ofNat L)), (.int (Int32.ofNat g)), (.int (Int32.ofNat k))] h0 (fun v h => v = some (.int (Int32.ofNat (L + max g k))) ∧ h = h0) := by
  refine own_nc (plainFor_of_name (by first | (simp [plainName, overriddenIn]; done) | decide +kernel)) ?_
  intro p e s m below meth c s₁ S0 X0 hx hby hml hret hnm hown hZ e0 cc
  have N0 := Fr.nil Z.heap.size
  have c0 : Steps p.tables e below S0 (s₁.setTop (mkF m 0 #[.val (.int (Int32.ofNat L)), .val (.int (Int32.ofNat g)), .val (.int (Int32.ofNat k)), .unset] [])) := cc.trans (XT.entry rfl)
  have c1 : Steps p.tables e below S0 (s₁.setTop (mkF m 3 #[.val (.int (Int32.ofNat L)), .val (.int (Int32.ofNat g)), .val (.int (Int32.ofNat k)), .unset] [(.int (Int32.ofNat k)), (.int (Int32.ofNat g)), (.int (Int32.ofNat L))])) := c0.trans (by
    refine XS.iloadN X0.here hx rfl (hb hby d17_0) rfl ?_
    refine XS.iloadN X0.here hx rfl (hb hby d17_1) rfl ?_
    refine XS.iloadN X0.here hx rfl (hb hby d17_2) rfl ?_
    exact Steps.refl _)
  obtain ⟨v2, T2, L2, X2, ⟨N2', rfl, e2⟩, c2'⟩ := own_stat X0 hx hml hZ hown (hw _ (List.mem_of_getElem? (i := 102) rfl)) (hw _ (List.mem_of_getElem? (i := 103) rfl)) (hw _ (List.mem_of_getElem? (i := 104) rfl)) (hw _ (List.mem_of_getElem? (i := 105) rfl)) (by decide) (kc := 0) (ks := 0) (h := h0) (W := 1) (argsL := [(.int (Int32.ofNat g)), (.int (Int32.ofNat k))]) (rest := [(.int (Int32.ofNat L))]) (own_pay (W := 1) (rmMaxN l Z a0 hw g k h0 O0 (by omega) (by omega)) hZ (hw _ (List.mem_of_getElem? (i := 105) rfl)) (hw _ (List.mem_of_getElem? (i := 104) rfl)) (by decide) (by decide)) c1 (lenOf pd_0 rfl) rfl (hb hby d17_3) e0
  have N2 := Fr.app N0 N2'
  have c2 : Steps p.tables e below S0 (T2.setTop (mkF m 6 #[.val (.int (Int32.ofNat L)), .val (.int (Int32.ofNat g)), .val (.int (Int32.ofNat k)), .unset] [(.int (Int32.ofNat (max g k))), (.int (Int32.ofNat L))])) := c2'
  have c3 : Steps p.tables e below S0 (T2.setTop (mkF m 7 #[.val (.int (Int32.ofNat L)), .val (.int (Int32.ofNat g)), .val (.int (Int32.ofNat k)), .unset] [(.int ((Int32.ofNat L) + (Int32.ofNat (max g k))))])) := c2.trans (by
    refine XS.iadd X2.here hx rfl (hb hby d17_6) rfl ?_
    exact Steps.refl _)
  have eq4 : ((Int32.ofNat L) + (Int32.ofNat (max g k))) = (Int32.ofNat (L + max g k)) := own_addN _ _
  have c4 : Steps p.tables e below S0 (T2.setTop (mkF m 7 #[.val (.int (Int32.ofNat L)), .val (.int (Int32.ofNat g)), .val (.int (Int32.ofNat k)), .unset] [(.int (Int32.ofNat (L + max g k)))])) := by have q := c3; rw [eq4] at q; exact q
  have c6 : Steps p.tables e below S0 (T2.setTop (mkF m 20 #[.val (.int (Int32.ofNat L)), .val (.int (Int32.ofNat g)), .val (.int (Int32.ofNat k)), .val (.int (Int32.ofNat (L + max g k)))] [(.int (Int32.ofNat (L + max g k)))])) := c4.trans (by
    refine XS.istoreN X2.here hx rfl (hb hby d17_7) rfl (l' := #[.val (.int (Int32.ofNat L)), .val (.int (Int32.ofNat g)), .val (.int (Int32.ofNat k)), .val (.int (Int32.ofNat (L + max g k)))]) rfl ?_
    refine XS.iconst X2.here hx rfl (hb hby d17_8) ?_
    refine XS.iloadN X2.here hx rfl (hb hby d17_9) rfl ?_
    refine XS.icmpNo X2.here hx rfl (hb hby d17_10) rfl (tlt ((own_lt32 (i := 0) (by omega) (by omega)).mpr hp)).2.1 ?_
    refine XS.iloadN X2.here hx rfl (hb hby d17_13) rfl ?_
    refine X2.ldcInt hx hown (mvT hZ (hw _ (List.mem_of_getElem? (i := 106) rfl))) (g := (mkF m 14 #[.val (.int (Int32.ofNat L)), .val (.int (Int32.ofNat g)), .val (.int (Int32.ofNat k)), .val (.int (Int32.ofNat (L + max g k)))] [(.int (Int32.ofNat (L + max g k)))])) rfl (hb hby d17_14) _ ?_
    refine XS.icmpNo X2.here hx rfl (hb hby d17_16) rfl (flt (fun q => absurd ((own_lt32 (i := 2147483639) (by omega) (by omega)).mp q) (by omega))).2.2.1 ?_
    refine XS.iloadN X2.here hx rfl (hb hby d17_19) rfl ?_
    exact Steps.refl _)
  refine ⟨T2, (some (.int (Int32.ofNat (L + max g k)))), _, _, _, X2, by decide, by decide, (fun q => by cases q), N2, ?_, fun fs hr => ?_⟩
  · rw [e2]
    exact ⟨rfl, rfl⟩
  · exact c6.trans (retI X2 hx hret (hb hby d17_20) hr)
set_option maxRecDepth 65536 in
set_option maxHeartbeats 40000000 in
theorem rmNC (l : Launch) (Z : State) (a0 : Array Value) (hw : ∀ d ∈ tables_1, d.before a0 Z = true) (b t : Addr) (kb : ClassId) (L : Nat) (bs : List Int32) (mc : Nat) (h0 : Heap) (O0 : Old Z Z.heap.size h0) (hsb : own_SB Z h0 b t kb L bs) (hm : L < mc) (hm4 : mc ≤ 4000) :
    own_NC l Z (⟨"java/lang/AbstractStringBuilder", "newCapacity", "(I)I"⟩ : MethodName) jdk_68_method_10_code 6 (some .int) ({ frames := 2, cells := 0, slots := 0, locals := 29 } : Room) #[(.ref b), (.int (Int32.ofNat mc))] h0 (fun v h => v = some (.int (Int32.ofNat (L + max (mc - L) (L + 2)))) ∧ h = h0) := by
  refine own_nc (plainFor_of_name (by first | (simp [plainName, overriddenIn]; done) | decide +kernel)) ?_
  intro p e s m below meth c s₁ S0 X0 hx hby hml hret hnm hown hZ e0 cc
  have N0 := Fr.nil Z.heap.size
  have c0 : Steps p.tables e below S0 (s₁.setTop (mkF m 0 #[.val (.ref b), .val (.int (Int32.ofNat mc)), .unset, .unset, .unset, .unset] [])) := cc.trans (XT.entry rfl)
  obtain ⟨Eb, Fc, Fo, Fv, Vt, Et, hle, hL4, hbt, gb, gt⟩ := id hsb
  obtain ⟨T1, X1, e1, st1⟩ := getF X0 hx hZ hown (host := "") (Or.inl (hw _ (List.mem_of_getElem? (i := 61) rfl))) Via.refl e0 Fv (g := (mkF m 1 #[.val (.ref b), .val (.int (Int32.ofNat mc)), .unset, .unset, .unset, .unset] [(.ref b)])) rfl rfl (hb hby d16_1)
  obtain ⟨cl2, Ar2, q2, S2, M2, H2, G2⟩ := id Vt
  obtain ⟨T3, X3, e3, st3⟩ := getF X1 hx hZ hown (host := "") (Or.inl (hw _ (List.mem_of_getElem? (i := 63) rfl))) Via.refl e1 Fo (g := (mkF m 8 #[.val (.ref b), .val (.int (Int32.ofNat mc)), .val (.int (Int32.ofNat L)), .unset, .unset, .unset] [(.ref b), (.int (Int32.ofNat mc))])) rfl rfl (hb hby d16_8)
  have c4 : Steps p.tables e below S0 (T3.setTop (mkF m 12 #[.val (.ref b), .val (.int (Int32.ofNat mc)), .val (.int (Int32.ofNat L)), .unset, .unset, .unset] [(.int ((Int32.ofNat mc) <<< ((0 : Int32) &&& 31)))])) := c0.trans (by
    refine XS.aloadN X0.here hx rfl (hb hby d16_0) rfl rfl ?_
    refine st1 _ ?_
    refine X1.arraylength hx (by rw [show T1.heap = h0 from e1]; exact Ar2.1) (State.isArrayOf_alike (hZ).alike Ar2.2.1) (g := (mkF m 4 #[.val (.ref b), .val (.int (Int32.ofNat mc)), .unset, .unset, .unset, .unset] [(.ref t)])) rfl rfl (hb hby d16_4) _ ?_
    rw [len_of S2 M2]
    refine XS.istoreN X1.here hx rfl (hb hby d16_5) rfl (l' := #[.val (.ref b), .val (.int (Int32.ofNat mc)), .val (.int (Int32.ofNat L)), .unset, .unset, .unset]) rfl ?_
    refine XS.iloadN X1.here hx rfl (hb hby d16_6) rfl ?_
    refine XS.aloadN X1.here hx rfl (hb hby d16_7) rfl rfl ?_
    refine st3 _ ?_
    show Steps p.tables e below (T3.setTop (mkF m 11 #[.val (.ref b), .val (.int (Int32.ofNat mc)), .val (.int (Int32.ofNat L)), .unset, .unset, .unset] [(.int (0 : Int32)), (.int (Int32.ofNat mc))])) _
    refine XS.ishl X3.here hx rfl (hb hby d16_11) rfl ?_
    exact Steps.refl _)
  have eq5 : ((Int32.ofNat mc) <<< ((0 : Int32) &&& 31)) = (Int32.ofNat mc) := own_sl0 _
  have c5 : Steps p.tables e below S0 (T3.setTop (mkF m 12 #[.val (.ref b), .val (.int (Int32.ofNat mc)), .val (.int (Int32.ofNat L)), .unset, .unset, .unset] [(.int (Int32.ofNat mc))])) := by have q := c4; rw [eq5] at q; exact q
  have c6 : Steps p.tables e below S0 (T3.setTop (mkF m 16 #[.val (.ref b), .val (.int (Int32.ofNat mc)), .val (.int (Int32.ofNat L)), .val (.int (Int32.ofNat mc)), .unset, .unset] [(.int ((Int32.ofNat mc) - (Int32.ofNat L)))])) := c5.trans (by
    refine XS.istoreN X3.here hx rfl (hb hby d16_12) rfl (l' := #[.val (.ref b), .val (.int (Int32.ofNat mc)), .val (.int (Int32.ofNat L)), .val (.int (Int32.ofNat mc)), .unset, .unset]) rfl ?_
    refine XS.iloadN X3.here hx rfl (hb hby d16_13) rfl ?_
    refine XS.iloadN X3.here hx rfl (hb hby d16_14) rfl ?_
    refine XS.isub X3.here hx rfl (hb hby d16_15) rfl ?_
    exact Steps.refl _)
  have eq7 : ((Int32.ofNat mc) - (Int32.ofNat L)) = (Int32.ofNat (mc - L)) := own_subN (by omega)
  have c7 : Steps p.tables e below S0 (T3.setTop (mkF m 16 #[.val (.ref b), .val (.int (Int32.ofNat mc)), .val (.int (Int32.ofNat L)), .val (.int (Int32.ofNat mc)), .unset, .unset] [(.int (Int32.ofNat (mc - L)))])) := by have q := c6; rw [eq7] at q; exact q
  obtain ⟨T8, X8, e8, st8⟩ := getF X3 hx hZ hown (host := "") (Or.inl (hw _ (List.mem_of_getElem? (i := 63) rfl))) Via.refl e3 Fo (g := (mkF m 24 #[.val (.ref b), .val (.int (Int32.ofNat mc)), .val (.int (Int32.ofNat L)), .val (.int (Int32.ofNat mc)), .val (.int (Int32.ofNat (mc - L))), .unset] [(.ref b), (.int (2 : Int32)), (.int (Int32.ofNat L)), (.int (Int32.ofNat (mc - L))), (.int (Int32.ofNat L))])) rfl rfl (hb hby d16_24)
  have c9 : Steps p.tables e below S0 (T8.setTop (mkF m 29 #[.val (.ref b), .val (.int (Int32.ofNat mc)), .val (.int (Int32.ofNat L)), .val (.int (Int32.ofNat mc)), .val (.int (Int32.ofNat (mc - L))), .unset] [(.int ((Int32.ofNat L) + (2 : Int32))), (.int (Int32.ofNat (mc - L))), (.int (Int32.ofNat L))])) := c7.trans (by
    refine XS.istore X3.here hx rfl (hb hby d16_16) rfl (l' := #[.val (.ref b), .val (.int (Int32.ofNat mc)), .val (.int (Int32.ofNat L)), .val (.int (Int32.ofNat mc)), .val (.int (Int32.ofNat (mc - L))), .unset]) rfl ?_
    refine XS.iloadN X3.here hx rfl (hb hby d16_18) rfl ?_
    refine XS.iload X3.here hx rfl (hb hby d16_19) rfl ?_
    refine XS.iloadN X3.here hx rfl (hb hby d16_21) rfl ?_
    refine XS.iconst X3.here hx rfl (hb hby d16_22) ?_
    refine XS.aloadN X3.here hx rfl (hb hby d16_23) rfl rfl ?_
    refine st8 _ ?_
    show Steps p.tables e below (T8.setTop (mkF m 27 #[.val (.ref b), .val (.int (Int32.ofNat mc)), .val (.int (Int32.ofNat L)), .val (.int (Int32.ofNat mc)), .val (.int (Int32.ofNat (mc - L))), .unset] [(.int (0 : Int32)), (.int (2 : Int32)), (.int (Int32.ofNat L)), (.int (Int32.ofNat (mc - L))), (.int (Int32.ofNat L))])) _
    refine XS.ishl X8.here hx rfl (hb hby d16_27) rfl ?_
    refine XS.iadd X8.here hx rfl (hb hby d16_28) rfl ?_
    exact Steps.refl _)
  have eq10 : ((Int32.ofNat L) + (2 : Int32)) = (Int32.ofNat (L + 2)) := own_addN L 2
  have c10 : Steps p.tables e below S0 (T8.setTop (mkF m 29 #[.val (.ref b), .val (.int (Int32.ofNat mc)), .val (.int (Int32.ofNat L)), .val (.int (Int32.ofNat mc)), .val (.int (Int32.ofNat (mc - L))), .unset] [(.int (Int32.ofNat (L + 2))), (.int (Int32.ofNat (mc - L))), (.int (Int32.ofNat L))])) := by have q := c9; rw [eq10] at q; exact q
  obtain ⟨v11, T11, L11, X11, ⟨N11', rfl, e11⟩, c11'⟩ := own_stat X8 hx hml hZ hown (hw _ (List.mem_of_getElem? (i := 98) rfl)) (hw _ (List.mem_of_getElem? (i := 99) rfl)) (hw _ (List.mem_of_getElem? (i := 100) rfl)) (hw _ (List.mem_of_getElem? (i := 101) rfl)) (by decide) (kc := 0) (ks := 0) (h := h0) (W := 0) (argsL := [(.int (Int32.ofNat L)), (.int (Int32.ofNat (mc - L))), (.int (Int32.ofNat (L + 2)))]) (rest := []) (own_pay (W := 0) (rmNL l Z a0 hw L (mc - L) (L + 2) h0 O0 (by omega) (by omega)) hZ (hw _ (List.mem_of_getElem? (i := 101) rfl)) (hw _ (List.mem_of_getElem? (i := 100) rfl)) (by decide) (by decide)) c10 (lenOf pd_1 rfl) rfl (hb hby d16_29) e8
  have N11 := Fr.app N0 N11'
  have c11 : Steps p.tables e below S0 (T11.setTop (mkF m 32 #[.val (.ref b), .val (.int (Int32.ofNat mc)), .val (.int (Int32.ofNat L)), .val (.int (Int32.ofNat mc)), .val (.int (Int32.ofNat (mc - L))), .unset] [(.int (Int32.ofNat (L + max (mc - L) (L + 2))))])) := c11'
  obtain ⟨T13, X13, e13, st13⟩ := getF X11 hx hZ hown (host := "") (Or.inl (hw _ (List.mem_of_getElem? (i := 63) rfl))) Via.refl e11 Fo (g := (mkF m 54 #[.val (.ref b), .val (.int (Int32.ofNat mc)), .val (.int (Int32.ofNat L)), .val (.int (Int32.ofNat mc)), .val (.int (Int32.ofNat (mc - L))), .val (.int (Int32.ofNat (L + max (mc - L) (L + 2))))] [(.ref b), (.int (Int32.ofNat (L + max (mc - L) (L + 2))))])) rfl rfl (hb hby d16_54)
  have c14 : Steps p.tables e below S0 (T13.setTop (mkF m 58 #[.val (.ref b), .val (.int (Int32.ofNat mc)), .val (.int (Int32.ofNat L)), .val (.int (Int32.ofNat mc)), .val (.int (Int32.ofNat (mc - L))), .val (.int (Int32.ofNat (L + max (mc - L) (L + 2))))] [(.int ((Int32.ofNat (L + max (mc - L) (L + 2))) >>> ((0 : Int32) &&& 31)))])) := c11.trans (by
    refine XS.istore X11.here hx rfl (hb hby d16_32) rfl (l' := #[.val (.ref b), .val (.int (Int32.ofNat mc)), .val (.int (Int32.ofNat L)), .val (.int (Int32.ofNat mc)), .val (.int (Int32.ofNat (mc - L))), .val (.int (Int32.ofNat (L + max (mc - L) (L + 2))))]) rfl ?_
    refine XS.iload X11.here hx rfl (hb hby d16_34) rfl ?_
    refine X11.ldcInt hx hown (mvT hZ (hw _ (List.mem_of_getElem? (i := 107) rfl))) (g := (mkF m 36 #[.val (.ref b), .val (.int (Int32.ofNat mc)), .val (.int (Int32.ofNat L)), .val (.int (Int32.ofNat mc)), .val (.int (Int32.ofNat (mc - L))), .val (.int (Int32.ofNat (L + max (mc - L) (L + 2))))] [(.int (Int32.ofNat (L + max (mc - L) (L + 2))))])) rfl (hb hby d16_36) _ ?_
    refine XS.icmpYes X11.here hx rfl (pc0 := 38) (pc' := 51) rfl (hb hby d16_38) rfl (feq (own_neN (b := 2147483647) (by omega) (by omega) (by omega))).2 (by decide) (by decide) ?_
    refine XS.iload X11.here hx rfl (hb hby d16_51) rfl ?_
    refine XS.aloadN X11.here hx rfl (hb hby d16_53) rfl rfl ?_
    refine st13 _ ?_
    show Steps p.tables e below (T13.setTop (mkF m 57 #[.val (.ref b), .val (.int (Int32.ofNat mc)), .val (.int (Int32.ofNat L)), .val (.int (Int32.ofNat mc)), .val (.int (Int32.ofNat (mc - L))), .val (.int (Int32.ofNat (L + max (mc - L) (L + 2))))] [(.int (0 : Int32)), (.int (Int32.ofNat (L + max (mc - L) (L + 2))))])) _
    refine XS.ishr X13.here hx rfl (hb hby d16_57) rfl ?_
    exact Steps.refl _)
  have eq15 : ((Int32.ofNat (L + max (mc - L) (L + 2))) >>> ((0 : Int32) &&& 31)) = (Int32.ofNat (L + max (mc - L) (L + 2))) := own_sh0 _
  have c15 : Steps p.tables e below S0 (T13.setTop (mkF m 58 #[.val (.ref b), .val (.int (Int32.ofNat mc)), .val (.int (Int32.ofNat L)), .val (.int (Int32.ofNat mc)), .val (.int (Int32.ofNat (mc - L))), .val (.int (Int32.ofNat (L + max (mc - L) (L + 2))))] [(.int (Int32.ofNat (L + max (mc - L) (L + 2))))])) := by have q := c14; rw [eq15] at q; exact q
  refine ⟨T13, (some (.int (Int32.ofNat (L + max (mc - L) (L + 2))))), _, _, _, X13, by decide, by decide, (fun q => by cases q), N11, ?_, fun fs hr => ?_⟩
  · rw [e13]
    exact ⟨rfl, rfl⟩
  · exact c15.trans (retI X13 hx hret (hb hby d16_58) hr)
set_option maxRecDepth 65536 in
set_option maxHeartbeats 40000000 in
theorem rmCO (l : Launch) (Z : State) (a0 : Array Value) (hw : ∀ d ∈ tables_1, d.before a0 Z = true) (t : Addr) (kb : ClassId) (L n : Nat) (bs : List Int32) (h0 : Heap) (O0 : Old Z Z.heap.size h0) (Vt : Arv Z h0 t kb .byte (Int32.ofNat L) (own_bv bs) (.int (0 : Int32))) (hle : bs.length ≤ L) (hn : L < n) (hc : n ≤ 100) :
    own_NC l Z (⟨"java/util/Arrays", "copyOf", "([BI)[B"⟩ : MethodName) jdk_65_method_121_code 3 (some (.array .byte)) ({ frames := 1, cells := 1, slots := 100, locals := 40 } : Room) #[(.ref t), (.int (Int32.ofNat n))] h0 (fun v h => ∃ (t2 : Addr) (kb2 : ClassId), v = some (.ref t2) ∧ Keep h0 h [] ∧ h0.size ≤ t2 ∧ Arv Z h t2 kb2 .byte (Int32.ofNat n) (own_bv bs) (.int (0 : Int32)) ∧ Exa Z h t2 "[B") := by
  refine own_nc (plainFor_of_name (by first | (simp [plainName, overriddenIn]; done) | decide +kernel)) ?_
  intro p e s m below meth c s₁ S0 X0 hx hby hml hret hnm hown hZ e0 cc
  have N0 := Fr.nil Z.heap.size
  have c0 : Steps p.tables e below S0 (s₁.setTop (mkF m 0 #[.val (.ref t), .val (.int (Int32.ofNat n)), .unset] [])) := cc.trans (XT.entry rfl)
  obtain ⟨cl1, Ar1, q1, S1, M1, H1, G1⟩ := id Vt
  obtain ⟨T2, h2, k2, X2, e2, E2, A2, Ev2, st2⟩ := newPE X0 hx hZ (hw _ (List.mem_of_getElem? (i := 3) rfl)) e0 (g := (mkF m 15 #[.val (.ref t), .val (.int (Int32.ofNat n)), .unset] [(.int (Int32.ofNat n))])) rfl (hb hby d19_15) rfl (own_nneg (by omega)) (cap := 100) (by rw [own_clamp (by omega)]; exact hc) (by decide) (by decide) (by decide) (ad := "[B") rfl
  obtain ⟨b2, g2⟩ : ∃ z, z = h0.size := ⟨_, rfl⟩
  rw [← g2] at A2 Ev2 st2
  have lo2 : h0.size ≤ b2 := Nat.le_of_eq g2.symm
  have ge2 : Z.heap.size ≤ b2 := Nat.le_trans O0.2.1 lo2
  have V2 := Arv.new A2 (own_nneg (by omega))
  obtain ⟨cl3, Ar3, q3, S3, M3, H3, G3⟩ := id (Vt.ext E2)
  have c4 : Steps p.tables e below S0 (T2.setTop (mkF m 25 #[.val (.ref t), .val (.int (Int32.ofNat n)), .val (.ref b2)] [(.int (Int32.ofNat n)), (.int (Int32.ofNat L)), (.int (0 : Int32)), (.ref b2), (.int (0 : Int32)), (.ref t)])) := c0.trans (by
    refine XS.iloadN X0.here hx rfl (hb hby d19_0) rfl ?_
    refine XS.aloadN X0.here hx rfl (hb hby d19_1) rfl rfl ?_
    refine X0.arraylength hx (by rw [show s₁.heap = h0 from e0]; exact Ar1.1) (State.isArrayOf_alike (hZ).alike Ar1.2.1) (g := (mkF m 2 #[.val (.ref t), .val (.int (Int32.ofNat n)), .unset] [(.ref t), (.int (Int32.ofNat n))])) rfl rfl (hb hby d19_2) _ ?_
    rw [len_of S1 M1]
    refine XS.icmpYes X0.here hx rfl (pc0 := 3) (pc' := 14) rfl (hb hby d19_3) rfl (feq (own_neN (by omega) (by omega) (by omega))).2 (by decide) (by decide) ?_
    refine XS.iloadN X0.here hx rfl (hb hby d19_14) rfl ?_
    refine st2 _ ?_
    show Steps p.tables e below (T2.setTop (mkF m 17 #[.val (.ref t), .val (.int (Int32.ofNat n)), .unset] [(.ref b2)])) _
    refine XS.astoreN X2.here hx rfl (hb hby d19_17) rfl rfl (l' := #[.val (.ref t), .val (.int (Int32.ofNat n)), .val (.ref b2)]) rfl ?_
    refine XS.aloadN X2.here hx rfl (hb hby d19_18) rfl rfl ?_
    refine XS.iconst X2.here hx rfl (hb hby d19_19) ?_
    refine XS.aloadN X2.here hx rfl (hb hby d19_20) rfl rfl ?_
    refine XS.iconst X2.here hx rfl (hb hby d19_21) ?_
    refine XS.aloadN X2.here hx rfl (hb hby d19_22) rfl rfl ?_
    refine X2.arraylength hx (by rw [show T2.heap = h2 from e2]; exact Ar3.1) (State.isArrayOf_alike (hZ).alike Ar3.2.1) (g := (mkF m 23 #[.val (.ref t), .val (.int (Int32.ofNat n)), .val (.ref b2)] [(.ref t), (.int (0 : Int32)), (.ref b2), (.int (0 : Int32)), (.ref t)])) rfl rfl (hb hby d19_23) _ ?_
    rw [len_of S3 M3]
    refine XS.iloadN X2.here hx rfl (hb hby d19_24) rfl ?_
    show Steps p.tables e below (T2.setTop (mkF m 25 #[.val (.ref t), .val (.int (Int32.ofNat n)), .val (.ref b2)] [(.int (Int32.ofNat n)), (.int (Int32.ofNat L)), (.int (0 : Int32)), (.ref b2), (.int (0 : Int32)), (.ref t)])) _
    exact Steps.refl _)
  obtain ⟨v5, T5, L5, X5, ⟨N5', rfl, e5⟩, c5'⟩ := own_stat X2 hx hml hZ hown (hw _ (List.mem_of_getElem? (i := 112) rfl)) (hw _ (List.mem_of_getElem? (i := 113) rfl)) (hw _ (List.mem_of_getElem? (i := 104) rfl)) (hw _ (List.mem_of_getElem? (i := 114) rfl)) (by decide) (kc := 0) (ks := 0) (h := h2) (W := 4) (argsL := [(.int (Int32.ofNat L)), (.int (Int32.ofNat n))]) (rest := [(.int (0 : Int32)), (.ref b2), (.int (0 : Int32)), (.ref t)]) (own_pay (W := 4) (rmMinN l Z a0 hw L n h2 (O0.ext E2) (by omega) (by omega)) hZ (hw _ (List.mem_of_getElem? (i := 114) rfl)) (hw _ (List.mem_of_getElem? (i := 104) rfl)) (by decide) (by decide)) c4 (lenOf pd_0 rfl) rfl (hb hby d19_25) e2
  have N5 := Fr.app N0 N5'
  have c5 : Steps p.tables e below S0 (T5.setTop (mkF m 28 #[.val (.ref t), .val (.int (Int32.ofNat n)), .val (.ref b2)] [(.int (Int32.ofNat (min L n))), (.int (0 : Int32)), (.ref b2), (.int (0 : Int32)), (.ref t)])) := c5'
  have eq6 : (Int32.ofNat (min L n)) = (Int32.ofNat L) := by rw [Nat.min_eq_left (by omega)]
  have c6 : Steps p.tables e below S0 (T5.setTop (mkF m 28 #[.val (.ref t), .val (.int (Int32.ofNat n)), .val (.ref b2)] [(.int (Int32.ofNat L)), (.int (0 : Int32)), (.ref b2), (.int (0 : Int32)), (.ref t)])) := by have q := c5; rw [eq6] at q; exact q
  obtain ⟨T7, h7, L7, X7, e7, N7, K7, V7, st7⟩ := own_cpV X5 hx hZ hown (hw _ (List.mem_of_getElem? (i := 115) rfl)) (hw _ (List.mem_of_getElem? (i := 118) rfl)) (hw _ (List.mem_of_getElem? (i := 116) rfl)) (hw _ (List.mem_of_getElem? (i := 117) rfl)) e5 (L) (n) (0) (0) (L) (Vt.ext E2) V2 rfl (by omega) (by omega) (by omega) (by omega) (own_bv bs) (own_cp0 bs L hle) N5 ge2 (g := (mkF m 28 #[.val (.ref t), .val (.int (Int32.ofNat n)), .val (.ref b2)] [(.int (Int32.ofNat L)), (.int (0 : Int32)), (.ref b2), (.int (0 : Int32)), (.ref t)])) rfl (by rw [hml]; rfl) rfl (hb hby d19_28) (by decide) (W := 0) (by show 2 * 0 + _ ≤ _; exact Nat.le_of_eq rfl) (by decide)
  have c8 : Steps p.tables e below S0 (T7.setTop (mkF m 32 #[.val (.ref t), .val (.int (Int32.ofNat n)), .val (.ref b2)] [(.ref b2)])) := c6.trans (by
    refine st7 _ ?_
    refine XS.aloadN X7.here hx rfl (hb hby d19_31) rfl rfl ?_
    exact Steps.refl _)
  refine ⟨T7, (some (.ref b2)), _, _, _, X7, by decide, by decide, (fun q => by cases q), N7, ?_, fun fs hr => ?_⟩
  · rw [e7]
    exact ⟨b2, k2, rfl, (((Keep.refl h0 []).ext E2).trans K7 (allS (Or.inr (Nat.le_trans (Keep.refl h0 []).1 lo2)) all0)), (Nat.le_trans (Keep.refl h0 []).1 lo2), V7, (Ev2.keep K7)⟩
  · exact own_retR X7 hx c8 hret rfl rfl (hb hby d19_32) hr
set_option maxRecDepth 65536 in
set_option maxHeartbeats 40000000 in
theorem rmEnsN (l : Launch) (Z : State) (a0 : Array Value) (hw : ∀ d ∈ tables_1, d.before a0 Z = true) (b t : Addr) (kb : ClassId) (L : Nat) (bs : List Int32) (mc : Nat) (h0 : Heap) (O0 : Old Z Z.heap.size h0) (hsb : own_SB Z h0 b t kb L bs) (hm : mc ≤ L) :
    own_NC l Z (⟨"java/lang/AbstractStringBuilder", "ensureCapacityInternal", "(I)V"⟩ : MethodName) jdk_68_method_9_code 3 none ({ frames := 0, cells := 0, slots := 0, locals := 0 } : Room) #[(.ref b), (.int (Int32.ofNat mc))] h0 (fun v h => v = none ∧ h = h0) := by
  refine own_nc (plainFor_of_name (by first | (simp [plainName, overriddenIn]; done) | decide +kernel)) ?_
  intro p e s m below meth c s₁ S0 X0 hx hby hml hret hnm hown hZ e0 cc
  have N0 := Fr.nil Z.heap.size
  have c0 : Steps p.tables e below S0 (s₁.setTop (mkF m 0 #[.val (.ref b), .val (.int (Int32.ofNat mc)), .unset] [])) := cc.trans (XT.entry rfl)
  obtain ⟨Eb, Fc, Fo, Fv, Vt, Et, hle, hL4, hbt, gb, gt⟩ := id hsb
  obtain ⟨T1, X1, e1, st1⟩ := getF X0 hx hZ hown (host := "") (Or.inl (hw _ (List.mem_of_getElem? (i := 61) rfl))) Via.refl e0 Fv (g := (mkF m 1 #[.val (.ref b), .val (.int (Int32.ofNat mc)), .unset] [(.ref b)])) rfl rfl (hb hby d15_1)
  obtain ⟨cl2, Ar2, q2, S2, M2, H2, G2⟩ := id Vt
  obtain ⟨T3, X3, e3, st3⟩ := getF X1 hx hZ hown (host := "") (Or.inl (hw _ (List.mem_of_getElem? (i := 63) rfl))) Via.refl e1 Fo (g := (mkF m 6 #[.val (.ref b), .val (.int (Int32.ofNat mc)), .unset] [(.ref b), (.int (Int32.ofNat L))])) rfl rfl (hb hby d15_6)
  have c4 : Steps p.tables e below S0 (T3.setTop (mkF m 10 #[.val (.ref b), .val (.int (Int32.ofNat mc)), .unset] [(.int ((Int32.ofNat L) >>> ((0 : Int32) &&& 31)))])) := c0.trans (by
    refine XS.aloadN X0.here hx rfl (hb hby d15_0) rfl rfl ?_
    refine st1 _ ?_
    refine X1.arraylength hx (by rw [show T1.heap = h0 from e1]; exact Ar2.1) (State.isArrayOf_alike (hZ).alike Ar2.2.1) (g := (mkF m 4 #[.val (.ref b), .val (.int (Int32.ofNat mc)), .unset] [(.ref t)])) rfl rfl (hb hby d15_4) _ ?_
    rw [len_of S2 M2]
    refine XS.aloadN X1.here hx rfl (hb hby d15_5) rfl rfl ?_
    refine st3 _ ?_
    show Steps p.tables e below (T3.setTop (mkF m 9 #[.val (.ref b), .val (.int (Int32.ofNat mc)), .unset] [(.int (0 : Int32)), (.int (Int32.ofNat L))])) _
    refine XS.ishr X3.here hx rfl (hb hby d15_9) rfl ?_
    exact Steps.refl _)
  have eq5 : ((Int32.ofNat L) >>> ((0 : Int32) &&& 31)) = (Int32.ofNat L) := own_sh0 _
  have c5 : Steps p.tables e below S0 (T3.setTop (mkF m 10 #[.val (.ref b), .val (.int (Int32.ofNat mc)), .unset] [(.int (Int32.ofNat L))])) := by have q := c4; rw [eq5] at q; exact q
  have c6 : Steps p.tables e below S0 (T3.setTop (mkF m 38 #[.val (.ref b), .val (.int (Int32.ofNat mc)), .val (.int (Int32.ofNat L))] [])) := c5.trans (by
    refine XS.istoreN X3.here hx rfl (hb hby d15_10) rfl (l' := #[.val (.ref b), .val (.int (Int32.ofNat mc)), .val (.int (Int32.ofNat L))]) rfl ?_
    refine XS.iloadN X3.here hx rfl (hb hby d15_11) rfl ?_
    refine XS.iloadN X3.here hx rfl (hb hby d15_12) rfl ?_
    refine XS.isub X3.here hx rfl (hb hby d15_13) rfl ?_
    refine XS.ifYes X3.here hx rfl (pc0 := 14) (pc' := 38) rfl (hb hby d15_14) rfl ((if0 _ _).trans (flt (own_sub0 hm (by omega))).2.2.2) (by decide) (by decide) ?_
    exact Steps.refl _)
  refine ⟨T3, none, _, _, _, X3, by decide, by decide, (fun _ => rfl), N0, ?_, fun fs hr => ?_⟩
  · rw [e3]
    exact ⟨rfl, rfl⟩
  · exact c6.trans (X3.returnOut hx hret (hb hby d15_38) hr)
set_option maxRecDepth 65536 in
set_option maxHeartbeats 40000000 in
theorem rmEnsG (l : Launch) (Z : State) (a0 : Array Value) (hw : ∀ d ∈ tables_1, d.before a0 Z = true) (b t : Addr) (kb : ClassId) (L : Nat) (bs : List Int32) (mc : Nat) (h0 : Heap) (O0 : Old Z Z.heap.size h0) (hsb : own_SB Z h0 b t kb L bs) (hm : L < mc) (hm4 : L + max (mc - L) (L + 2) ≤ 100) :
    own_NC l Z (⟨"java/lang/AbstractStringBuilder", "ensureCapacityInternal", "(I)V"⟩ : MethodName) jdk_68_method_9_code 3 none ({ frames := 3, cells := 1, slots := 100, locals := 55 } : Room) #[(.ref b), (.int (Int32.ofNat mc))] h0 (fun v h => v = none ∧ ∃ (t2 : Addr) (kb2 : ClassId), own_SB Z h b t2 kb2 (L + max (mc - L) (L + 2)) bs ∧ Keep h0 h [b] ∧ h0.size ≤ t2) := by
  refine own_nc (plainFor_of_name (by first | (simp [plainName, overriddenIn]; done) | decide +kernel)) ?_
  intro p e s m below meth c s₁ S0 X0 hx hby hml hret hnm hown hZ e0 cc
  have N0 := Fr.nil Z.heap.size
  have c0 : Steps p.tables e below S0 (s₁.setTop (mkF m 0 #[.val (.ref b), .val (.int (Int32.ofNat mc)), .unset] [])) := cc.trans (XT.entry rfl)
  obtain ⟨Eb, Fc, Fo, Fv, Vt, Et, hle, hL4, hbt, gb, gt⟩ := id hsb
  obtain ⟨T1, X1, e1, st1⟩ := getF X0 hx hZ hown (host := "") (Or.inl (hw _ (List.mem_of_getElem? (i := 61) rfl))) Via.refl e0 Fv (g := (mkF m 1 #[.val (.ref b), .val (.int (Int32.ofNat mc)), .unset] [(.ref b)])) rfl rfl (hb hby d15_1)
  obtain ⟨cl2, Ar2, q2, S2, M2, H2, G2⟩ := id Vt
  obtain ⟨T3, X3, e3, st3⟩ := getF X1 hx hZ hown (host := "") (Or.inl (hw _ (List.mem_of_getElem? (i := 63) rfl))) Via.refl e1 Fo (g := (mkF m 6 #[.val (.ref b), .val (.int (Int32.ofNat mc)), .unset] [(.ref b), (.int (Int32.ofNat L))])) rfl rfl (hb hby d15_6)
  have c4 : Steps p.tables e below S0 (T3.setTop (mkF m 10 #[.val (.ref b), .val (.int (Int32.ofNat mc)), .unset] [(.int ((Int32.ofNat L) >>> ((0 : Int32) &&& 31)))])) := c0.trans (by
    refine XS.aloadN X0.here hx rfl (hb hby d15_0) rfl rfl ?_
    refine st1 _ ?_
    refine X1.arraylength hx (by rw [show T1.heap = h0 from e1]; exact Ar2.1) (State.isArrayOf_alike (hZ).alike Ar2.2.1) (g := (mkF m 4 #[.val (.ref b), .val (.int (Int32.ofNat mc)), .unset] [(.ref t)])) rfl rfl (hb hby d15_4) _ ?_
    rw [len_of S2 M2]
    refine XS.aloadN X1.here hx rfl (hb hby d15_5) rfl rfl ?_
    refine st3 _ ?_
    show Steps p.tables e below (T3.setTop (mkF m 9 #[.val (.ref b), .val (.int (Int32.ofNat mc)), .unset] [(.int (0 : Int32)), (.int (Int32.ofNat L))])) _
    refine XS.ishr X3.here hx rfl (hb hby d15_9) rfl ?_
    exact Steps.refl _)
  have eq5 : ((Int32.ofNat L) >>> ((0 : Int32) &&& 31)) = (Int32.ofNat L) := own_sh0 _
  have c5 : Steps p.tables e below S0 (T3.setTop (mkF m 10 #[.val (.ref b), .val (.int (Int32.ofNat mc)), .unset] [(.int (Int32.ofNat L))])) := by have q := c4; rw [eq5] at q; exact q
  obtain ⟨T6, X6, e6, st6⟩ := getF X3 hx hZ hown (host := "") (Or.inl (hw _ (List.mem_of_getElem? (i := 61) rfl))) Via.refl e3 Fv (g := (mkF m 19 #[.val (.ref b), .val (.int (Int32.ofNat mc)), .val (.int (Int32.ofNat L))] [(.ref b), (.ref b)])) rfl rfl (hb hby d15_19)
  have c7 : Steps p.tables e below S0 (T6.setTop (mkF m 24 #[.val (.ref b), .val (.int (Int32.ofNat mc)), .val (.int (Int32.ofNat L))] [(.int (Int32.ofNat mc)), (.ref b), (.ref t), (.ref b)])) := c5.trans (by
    refine XS.istoreN X3.here hx rfl (hb hby d15_10) rfl (l' := #[.val (.ref b), .val (.int (Int32.ofNat mc)), .val (.int (Int32.ofNat L))]) rfl ?_
    refine XS.iloadN X3.here hx rfl (hb hby d15_11) rfl ?_
    refine XS.iloadN X3.here hx rfl (hb hby d15_12) rfl ?_
    refine XS.isub X3.here hx rfl (hb hby d15_13) rfl ?_
    refine XS.ifNo X3.here hx rfl (hb hby d15_14) rfl ((if0 _ _).trans (tlt (own_sub1 hm (by omega))).2.2.2) ?_
    refine XS.aloadN X3.here hx rfl (hb hby d15_17) rfl rfl ?_
    refine XS.aloadN X3.here hx rfl (hb hby d15_18) rfl rfl ?_
    refine st6 _ ?_
    show Steps p.tables e below (T6.setTop (mkF m 22 #[.val (.ref b), .val (.int (Int32.ofNat mc)), .val (.int (Int32.ofNat L))] [(.ref t), (.ref b)])) _
    refine XS.aloadN X6.here hx rfl (hb hby d15_22) rfl rfl ?_
    refine XS.iloadN X6.here hx rfl (hb hby d15_23) rfl ?_
    exact Steps.refl _)
  obtain ⟨v8, T8, L8, X8, ⟨N8', rfl, e8⟩, c8'⟩ := own_virt X6 hx hml hZ hown (hw _ (List.mem_of_getElem? (i := 93) rfl)) (own_decl (hw _ (List.mem_of_getElem? (i := 94) rfl)) (hw _ (List.mem_of_getElem? (i := 97) rfl))) (hw _ (List.mem_of_getElem? (i := 96) rfl)) (hw _ (List.mem_of_getElem? (i := 94) rfl)) (hw _ (List.mem_of_getElem? (i := 96) rfl)) (by decide) (kc := 0) (ks := 0) (h := h0) (W := 2) (b := b) (argsL := [(.int (Int32.ofNat mc))]) (rest := [(.ref t), (.ref b)]) (own_pay (W := 2) (rmNC l Z a0 hw b t kb L bs mc h0 O0 hsb hm (by omega)) hZ (hw _ (List.mem_of_getElem? (i := 97) rfl)) (hw _ (List.mem_of_getElem? (i := 57) rfl)) (by decide) (by decide)) Eb c7 (lenOf pd_2 rfl) rfl (hb hby d15_24) e6
  have N8 := Fr.app N0 N8'
  have c8 : Steps p.tables e below S0 (T8.setTop (mkF m 27 #[.val (.ref b), .val (.int (Int32.ofNat mc)), .val (.int (Int32.ofNat L))] [(.int (Int32.ofNat (L + max (mc - L) (L + 2)))), (.ref t), (.ref b)])) := c8'
  obtain ⟨T9, X9, e9, st9⟩ := getF X8 hx hZ hown (host := "") (Or.inl (hw _ (List.mem_of_getElem? (i := 63) rfl))) Via.refl e8 Fo (g := (mkF m 28 #[.val (.ref b), .val (.int (Int32.ofNat mc)), .val (.int (Int32.ofNat L))] [(.ref b), (.int (Int32.ofNat (L + max (mc - L) (L + 2)))), (.ref t), (.ref b)])) rfl rfl (hb hby d15_28)
  have c10 : Steps p.tables e below S0 (T9.setTop (mkF m 32 #[.val (.ref b), .val (.int (Int32.ofNat mc)), .val (.int (Int32.ofNat L))] [(.int ((Int32.ofNat (L + max (mc - L) (L + 2))) <<< ((0 : Int32) &&& 31))), (.ref t), (.ref b)])) := c8.trans (by
    refine XS.aloadN X8.here hx rfl (hb hby d15_27) rfl rfl ?_
    refine st9 _ ?_
    refine XS.ishl X9.here hx rfl (hb hby d15_31) rfl ?_
    exact Steps.refl _)
  have eq11 : ((Int32.ofNat (L + max (mc - L) (L + 2))) <<< ((0 : Int32) &&& 31)) = (Int32.ofNat (L + max (mc - L) (L + 2))) := own_sl0 _
  have c11 : Steps p.tables e below S0 (T9.setTop (mkF m 32 #[.val (.ref b), .val (.int (Int32.ofNat mc)), .val (.int (Int32.ofNat L))] [(.int (Int32.ofNat (L + max (mc - L) (L + 2)))), (.ref t), (.ref b)])) := by have q := c10; rw [eq11] at q; exact q
  obtain ⟨v12, T12, L12, X12, ⟨N12', t12, kb12, rfl, K12, lo12, V12, Et12⟩, c12'⟩ := own_stat X9 hx hml hZ hown (hw _ (List.mem_of_getElem? (i := 108) rfl)) (hw _ (List.mem_of_getElem? (i := 109) rfl)) (hw _ (List.mem_of_getElem? (i := 110) rfl)) (hw _ (List.mem_of_getElem? (i := 111) rfl)) (by decide) (kc := 1) (ks := 100) (h := h0) (W := 1) (argsL := [(.ref t), (.int (Int32.ofNat (L + max (mc - L) (L + 2))))]) (rest := [(.ref b)]) (own_pay (W := 1) (rmCO l Z a0 hw t kb L (L + max (mc - L) (L + 2)) bs h0 O0 Vt hle (by omega) hm4) hZ (hw _ (List.mem_of_getElem? (i := 111) rfl)) (hw _ (List.mem_of_getElem? (i := 110) rfl)) (by decide) (by decide)) c11 (lenOf pd_3 rfl) rfl (hb hby d15_32) e9
  have N12 := Fr.app N8 N12'
  have c12 : Steps p.tables e below S0 (T12.setTop (mkF m 35 #[.val (.ref b), .val (.int (Int32.ofNat mc)), .val (.int (Int32.ofNat L))] [(.ref t12), (.ref b)])) := c12'
  have gt12 : Z.heap.size ≤ t12 := Nat.le_trans O0.2.1 lo12
  obtain ⟨T13, h13, X13, e13, W13, st13⟩ := putF X12 hx hZ hown (host := "") (Or.inl (hw _ (List.mem_of_getElem? (i := 61) rfl))) Via.refl rfl (Fv.keep K12 nin0) (Eb.keep K12) (Or.inl (hw _ (List.mem_of_getElem? (i := 62) rfl))) (hw _ (List.mem_of_getElem? (i := 48) rfl)) (ty := (.array .byte)) (by decide) rfl rfl (g := (mkF m 35 #[.val (.ref b), .val (.int (Int32.ofNat mc)), .val (.int (Int32.ofNat L))] [(.ref t12), (.ref b)])) rfl rfl (hb hby d15_35)
  have N13 := Fr.snoc X13 N12 gb
  have Fw13 := (Fv.keep K12 nin0).same W13
  have c14 : Steps p.tables e below S0 (T13.setTop (mkF m 38 #[.val (.ref b), .val (.int (Int32.ofNat mc)), .val (.int (Int32.ofNat L))] [])) := c12.trans (by
    refine st13 _ ?_
    exact Steps.refl _)
  refine ⟨T13, none, _, _, _, X13, by decide, by decide, (fun _ => rfl), N13, ?_, fun fs hr => ?_⟩
  · rw [e13]
    exact ⟨rfl, t12, kb12, ⟨((Eb.keep K12).wr W13), ((Fc.keep K12 nin0).other W13 (Or.inr (slot_ne (Or.inl (hw _ (List.mem_of_getElem? (i := 87) rfl))) (Or.inl (hw _ (List.mem_of_getElem? (i := 62) rfl))) (by decide) (t := .int) (t' := (.array .byte)) (by decide) (by decide)))), ((Fo.keep K12 nin0).other W13 (Or.inr (slot_ne (Or.inl (hw _ (List.mem_of_getElem? (i := 64) rfl))) (Or.inl (hw _ (List.mem_of_getElem? (i := 62) rfl))) (by decide) (t := .byte) (t' := (.array .byte)) (by decide) (by decide)))), Fw13, (V12.other W13 (Ne.symm (Nat.ne_of_lt (Nat.lt_of_lt_of_le Eb.lt lo12)))), (Et12.wr W13), (by omega), (by omega), (Nat.ne_of_lt (Nat.lt_of_lt_of_le Eb.lt lo12)), gb, gt12⟩, (((Keep.refl h0 [b]).trans K12 all0).wr W13 (Or.inl (List.mem_of_getElem? (i := 0) rfl))), (Nat.le_trans (Keep.refl h0 []).1 lo12)⟩
  · exact c14.trans (X13.returnOut hx hret (hb hby d15_38) hr)
set_option maxRecDepth 65536 in
set_option maxHeartbeats 40000000 in
theorem rmAIL (l : Launch) (Z : State) (a0 : Array Value) (hw : ∀ d ∈ tables_1, d.before a0 Z = true) (b : Addr) (z : Int32) (fm : Value) (h0 : Heap) (O0 : Old Z Z.heap.size h0) (Fo : Fld Z h0 b "java/lang/AbstractStringBuilder" "coder" "B" (.int (0 : Int32))) (SC : Sta Z Z.heap "java/lang/String" "COMPACT_STRINGS" "Z" (.int z)) (hz : ¬ z = 0) (SF : Sta Z Z.heap "jdk/internal/util/Preconditions" "SIOOBE_FORMATTER" "Ljava/util/function/BiFunction;" fm) (hfm : fm.isRef = true) :
    own_NC l Z (⟨"java/lang/AbstractStringBuilder", "isLatin1", "()Z"⟩ : MethodName) jdk_68_method_68_code 1 (some .boolean) ({ frames := 0, cells := 0, slots := 0, locals := 0 } : Room) #[(.ref b)] h0 (fun v h => v = some (.int (1 : Int32)) ∧ h = h0) := by
  refine own_nc (plainFor_of_name (by first | (simp [plainName, overriddenIn]; done) | decide +kernel)) ?_
  intro p e s m below meth c s₁ S0 X0 hx hby hml hret hnm hown hZ e0 cc
  have N0 := Fr.nil Z.heap.size
  have c0 : Steps p.tables e below S0 (s₁.setTop (mkF m 0 #[.val (.ref b)] [])) := cc.trans (XT.entry rfl)
  obtain ⟨T1, X1, e1, st1⟩ := getS2 X0 hx hZ hown (host := "") (Or.inl (hw _ (List.mem_of_getElem? (i := 60) rfl))) Via.refl e0 (SC.ext O0.2) (g := (mkF m 0 #[.val (.ref b)] [])) rfl (hb hby d30_0)
  obtain ⟨T2, X2, e2, st2⟩ := getF X1 hx hZ hown (host := "") (Or.inl (hw _ (List.mem_of_getElem? (i := 63) rfl))) Via.refl e1 Fo (g := (mkF m 7 #[.val (.ref b)] [(.ref b)])) rfl rfl (hb hby d30_7)
  have c3 : Steps p.tables e below S0 (T2.setTop (mkF m 18 #[.val (.ref b)] [(.int (1 : Int32))])) := c0.trans (by
    refine st1 _ ?_
    refine XS.ifNo X1.here hx rfl (hb hby d30_3) rfl ((if0 _ _).trans (feq hz).1) ?_
    refine XS.aloadN X1.here hx rfl (hb hby d30_6) rfl rfl ?_
    refine st2 _ ?_
    show Steps p.tables e below (T2.setTop (mkF m 10 #[.val (.ref b)] [(.int (0 : Int32))])) _
    refine XS.ifNo X2.here hx rfl (hb hby d30_10) rfl ((if0 _ _).trans (teq (by decide : (0 : Int32) = (0 : Int32))).2) ?_
    refine XS.iconst X2.here hx rfl (hb hby d30_13) ?_
    refine XS.goto X2.here hx rfl (pc0 := 14) (pc' := 18) rfl (hb hby d30_14) (by decide) (by decide) ?_
    exact Steps.refl _)
  refine ⟨T2, (some (.int (1 : Int32))), _, _, _, X2, by decide, by decide, (fun q => by cases q), N0, ?_, fun fs hr => ?_⟩
  · rw [e2]
    exact ⟨rfl, rfl⟩
  · exact c3.trans (retN X2 hx (t := .boolean) hret (by simp) (hb hby d30_18) hr)
set_option maxRecDepth 65536 in
set_option maxHeartbeats 40000000 in
theorem rmCoder (l : Launch) (Z : State) (a0 : Array Value) (hw : ∀ d ∈ tables_1, d.before a0 Z = true) (x : Addr) (z : Int32) (fm : Value) (h0 : Heap) (O0 : Old Z Z.heap.size h0) (Cd : Fld Z h0 x "java/lang/String" "coder" "B" (.int (0 : Int32))) (SC : Sta Z Z.heap "java/lang/String" "COMPACT_STRINGS" "Z" (.int z)) (hz : ¬ z = 0) (SF : Sta Z Z.heap "jdk/internal/util/Preconditions" "SIOOBE_FORMATTER" "Ljava/util/function/BiFunction;" fm) (hfm : fm.isRef = true) :
    own_NC l Z (⟨"java/lang/String", "coder", "()B"⟩ : MethodName) jdk_42_method_152_code 1 (some .byte) ({ frames := 0, cells := 0, slots := 0, locals := 0 } : Room) #[(.ref x)] h0 (fun v h => v = some (.int (0 : Int32)) ∧ h = h0) := by
  refine own_nc (plainFor_of_name (by first | (simp [plainName, overriddenIn]; done) | decide +kernel)) ?_
  intro p e s m below meth c s₁ S0 X0 hx hby hml hret hnm hown hZ e0 cc
  have N0 := Fr.nil Z.heap.size
  have c0 : Steps p.tables e below S0 (s₁.setTop (mkF m 0 #[.val (.ref x)] [])) := cc.trans (XT.entry rfl)
  obtain ⟨T1, X1, e1, st1⟩ := getS2 X0 hx hZ hown (host := "") (Or.inl (hw _ (List.mem_of_getElem? (i := 29) rfl))) Via.refl e0 (SC.ext O0.2) (g := (mkF m 0 #[.val (.ref x)] [])) rfl (hb hby d14_0)
  obtain ⟨T2, X2, e2, st2⟩ := getF X1 hx hZ hown (host := "") (Or.inl (hw _ (List.mem_of_getElem? (i := 28) rfl))) Via.refl e1 Cd (g := (mkF m 7 #[.val (.ref x)] [(.ref x)])) rfl rfl (hb hby d14_7)
  have c3 : Steps p.tables e below S0 (T2.setTop (mkF m 14 #[.val (.ref x)] [(.int (0 : Int32))])) := c0.trans (by
    refine st1 _ ?_
    refine XS.ifNo X1.here hx rfl (hb hby d14_3) rfl ((if0 _ _).trans (feq hz).1) ?_
    refine XS.aloadN X1.here hx rfl (hb hby d14_6) rfl rfl ?_
    refine st2 _ ?_
    show Steps p.tables e below (T2.setTop (mkF m 10 #[.val (.ref x)] [(.int (0 : Int32))])) _
    refine XS.goto X2.here hx rfl (pc0 := 10) (pc' := 14) rfl (hb hby d14_10) (by decide) (by decide) ?_
    exact Steps.refl _)
  refine ⟨T2, (some (.int (0 : Int32))), _, _, _, X2, by decide, by decide, (fun q => by cases q), N0, ?_, fun fs hr => ?_⟩
  · rw [e2]
    exact ⟨rfl, rfl⟩
  · exact c3.trans (retN X2 hx (t := .byte) hret (by simp) (hb hby d14_14) hr)
set_option maxRecDepth 65536 in
set_option maxHeartbeats 40000000 in
theorem rmInf (l : Launch) (Z : State) (a0 : Array Value) (hw : ∀ d ∈ tables_1, d.before a0 Z = true) (b t : Addr) (kb : ClassId) (L : Nat) (bs : List Int32) (cs : List Int32) (x u : Addr) (ku : ClassId) (z : Int32) (fm : Value) (h0 : Heap) (O0 : Old Z Z.heap.size h0) (hsb : own_SB Z h0 b t kb L bs) (E : Exa Z h0 x "java/lang/String") (V : Fld Z h0 x "java/lang/String" "value" "[B" (.ref u)) (Cd : Fld Z h0 x "java/lang/String" "coder" "B" (.int (0 : Int32))) (K : Arv Z h0 u ku .byte (Int32.ofNat (cs : List Int32).length) (((cs : List Int32).map (fun c : Int32 => c.toInt8.toInt32)).map Value.int) (.int (0 : Int32))) (n1 : x ≠ b) (n2 : x ≠ t) (n3 : u ≠ b) (n4 : u ≠ t) (hcs : cs.length ≤ 4000) (SC : Sta Z Z.heap "java/lang/String" "COMPACT_STRINGS" "Z" (.int z)) (hz : ¬ z = 0) (SF : Sta Z Z.heap "jdk/internal/util/Preconditions" "SIOOBE_FORMATTER" "Ljava/util/function/BiFunction;" fm) (hfm : fm.isRef = true) :
    own_NC l Z (⟨"java/lang/AbstractStringBuilder", "inflateIfNeededFor", "(Ljava/lang/String;)V"⟩ : MethodName) jdk_68_method_71_code 2 none ({ frames := 1, cells := 0, slots := 0, locals := 14 } : Room) #[(.ref b), (.ref x)] h0 (fun v h => v = none ∧ h = h0) := by
  refine own_nc (plainFor_of_name (by first | (simp [plainName, overriddenIn]; done) | decide +kernel)) ?_
  intro p e s m below meth c s₁ S0 X0 hx hby hml hret hnm hown hZ e0 cc
  have N0 := Fr.nil Z.heap.size
  have c0 : Steps p.tables e below S0 (s₁.setTop (mkF m 0 #[.val (.ref b), .val (.ref x)] [])) := cc.trans (XT.entry rfl)
  obtain ⟨Eb, Fc, Fo, Fv, Vt, Et, hle, hL4, hbt, gb, gt⟩ := id hsb
  obtain ⟨T1, X1, e1, st1⟩ := getS2 X0 hx hZ hown (host := "") (Or.inl (hw _ (List.mem_of_getElem? (i := 60) rfl))) Via.refl e0 (SC.ext O0.2) (g := (mkF m 0 #[.val (.ref b), .val (.ref x)] [])) rfl (hb hby d22_0)
  obtain ⟨T2, X2, e2, st2⟩ := getF X1 hx hZ hown (host := "") (Or.inl (hw _ (List.mem_of_getElem? (i := 63) rfl))) Via.refl e1 Fo (g := (mkF m 7 #[.val (.ref b), .val (.ref x)] [(.ref b)])) rfl rfl (hb hby d22_7)
  have c3 : Steps p.tables e below S0 (T2.setTop (mkF m 11 #[.val (.ref b), .val (.ref x)] [(.ref x), (.int (0 : Int32))])) := c0.trans (by
    refine st1 _ ?_
    refine XS.ifNo X1.here hx rfl (hb hby d22_3) rfl ((if0 _ _).trans (feq hz).1) ?_
    refine XS.aloadN X1.here hx rfl (hb hby d22_6) rfl rfl ?_
    refine st2 _ ?_
    show Steps p.tables e below (T2.setTop (mkF m 10 #[.val (.ref b), .val (.ref x)] [(.int (0 : Int32))])) _
    refine XS.aloadN X2.here hx rfl (hb hby d22_10) rfl rfl ?_
    exact Steps.refl _)
  obtain ⟨v4, T4, L4, X4, ⟨N4', rfl, e4⟩, c4'⟩ := own_virt X2 hx hml hZ hown (hw _ (List.mem_of_getElem? (i := 129) rfl)) (hw _ (List.mem_of_getElem? (i := 82) rfl)) (hw _ (List.mem_of_getElem? (i := 84) rfl)) (hw _ (List.mem_of_getElem? (i := 83) rfl)) (hw _ (List.mem_of_getElem? (i := 84) rfl)) (by decide) (kc := 0) (ks := 0) (h := h0) (W := 1) (b := x) (argsL := []) (rest := [(.int (0 : Int32))]) (own_pay (W := 1) (rmCoder l Z a0 hw x z fm h0 O0 Cd SC hz SF hfm) hZ (hw _ (List.mem_of_getElem? (i := 85) rfl)) (hw _ (List.mem_of_getElem? (i := 1) rfl)) (by decide) (by decide)) E c3 (lenOf pd_4 rfl) rfl (hb hby d22_11) e2
  have N4 := Fr.app N0 N4'
  have c4 : Steps p.tables e below S0 (T4.setTop (mkF m 14 #[.val (.ref b), .val (.ref x)] [(.int (0 : Int32)), (.int (0 : Int32))])) := c4'
  have c5 : Steps p.tables e below S0 (T4.setTop (mkF m 21 #[.val (.ref b), .val (.ref x)] [])) := c4.trans (by
    refine XS.icmpYes X4.here hx rfl (pc0 := 14) (pc' := 21) rfl (hb hby d22_14) rfl (teq (by decide : (0 : Int32) = (0 : Int32))).1 (by decide) (by decide) ?_
    exact Steps.refl _)
  refine ⟨T4, none, _, _, _, X4, by decide, by decide, (fun _ => rfl), N4, ?_, fun fs hr => ?_⟩
  · rw [e4]
    exact ⟨rfl, rfl⟩
  · exact c5.trans (X4.returnOut hx hret (hb hby d22_21) hr)
set_option maxRecDepth 65536 in
set_option maxHeartbeats 40000000 in
theorem rmGB (l : Launch) (Z : State) (a0 : Array Value) (hw : ∀ d ∈ tables_1, d.before a0 Z = true) (b t : Addr) (kb : ClassId) (L : Nat) (bs : List Int32) (cs : List Int32) (x u : Addr) (ku : ClassId) (z : Int32) (fm : Value) (h0 : Heap) (O0 : Old Z Z.heap.size h0) (hsb : own_SB Z h0 b t kb L bs) (E : Exa Z h0 x "java/lang/String") (V : Fld Z h0 x "java/lang/String" "value" "[B" (.ref u)) (Cd : Fld Z h0 x "java/lang/String" "coder" "B" (.int (0 : Int32))) (K : Arv Z h0 u ku .byte (Int32.ofNat (cs : List Int32).length) (((cs : List Int32).map (fun c : Int32 => c.toInt8.toInt32)).map Value.int) (.int (0 : Int32))) (n1 : x ≠ b) (n2 : x ≠ t) (n3 : u ≠ b) (n4 : u ≠ t) (hcs : cs.length ≤ 4000) (SC : Sta Z Z.heap "java/lang/String" "COMPACT_STRINGS" "Z" (.int z)) (hz : ¬ z = 0) (SF : Sta Z Z.heap "jdk/internal/util/Preconditions" "SIOOBE_FORMATTER" "Ljava/util/function/BiFunction;" fm) (hfm : fm.isRef = true) (hf : bs.length + cs.length ≤ L) :
    own_NC l Z (⟨"java/lang/String", "getBytes", "([BIB)V"⟩ : MethodName) jdk_42_method_147_code 4 none ({ frames := 1, cells := 0, slots := 0, locals := 40 } : Room) #[(.ref x), (.ref t), (.int (Int32.ofNat bs.length)), (.int (0 : Int32))] h0 (fun v h => v = none ∧ Keep h0 h [t] ∧ Arv Z h t kb .byte (Int32.ofNat L) (own_bv (bs ++ cs)) (.int (0 : Int32))) := by
  refine own_nc (plainFor_of_name (by first | (simp [plainName, overriddenIn]; done) | decide +kernel)) ?_
  intro p e s m below meth c s₁ S0 X0 hx hby hml hret hnm hown hZ e0 cc
  have N0 := Fr.nil Z.heap.size
  have c0 : Steps p.tables e below S0 (s₁.setTop (mkF m 0 #[.val (.ref x), .val (.ref t), .val (.int (Int32.ofNat bs.length)), .val (.int (0 : Int32))] [])) := cc.trans (XT.entry rfl)
  obtain ⟨Eb, Fc, Fo, Fv, Vt, Et, hle, hL4, hbt, gb, gt⟩ := id hsb
  have c1 : Steps p.tables e below S0 (s₁.setTop (mkF m 1 #[.val (.ref x), .val (.ref t), .val (.int (Int32.ofNat bs.length)), .val (.int (0 : Int32))] [(.ref x)])) := c0.trans (by
    refine XS.aloadN X0.here hx rfl (hb hby d23_0) rfl rfl ?_
    exact Steps.refl _)
  obtain ⟨v2, T2, L2, X2, ⟨N2', rfl, e2⟩, c2'⟩ := own_virt X0 hx hml hZ hown (hw _ (List.mem_of_getElem? (i := 81) rfl)) (hw _ (List.mem_of_getElem? (i := 82) rfl)) (hw _ (List.mem_of_getElem? (i := 84) rfl)) (hw _ (List.mem_of_getElem? (i := 83) rfl)) (hw _ (List.mem_of_getElem? (i := 84) rfl)) (by decide) (kc := 0) (ks := 0) (h := h0) (W := 0) (b := x) (argsL := []) (rest := []) (own_pay (W := 0) (rmCoder l Z a0 hw x z fm h0 O0 Cd SC hz SF hfm) hZ (hw _ (List.mem_of_getElem? (i := 85) rfl)) (hw _ (List.mem_of_getElem? (i := 1) rfl)) (by decide) (by decide)) E c1 (lenOf pd_4 rfl) rfl (hb hby d23_1) e0
  have N2 := Fr.app N0 N2'
  have c2 : Steps p.tables e below S0 (T2.setTop (mkF m 4 #[.val (.ref x), .val (.ref t), .val (.int (Int32.ofNat bs.length)), .val (.int (0 : Int32))] [(.int (0 : Int32))])) := c2'
  obtain ⟨T3, X3, e3, st3⟩ := getF X2 hx hZ hown (host := "") (Or.inl (hw _ (List.mem_of_getElem? (i := 27) rfl))) Via.refl e2 V (g := (mkF m 9 #[.val (.ref x), .val (.ref t), .val (.int (Int32.ofNat bs.length)), .val (.int (0 : Int32))] [(.ref x)])) rfl rfl (hb hby d23_9)
  have c4 : Steps p.tables e below S0 (T3.setTop (mkF m 17 #[.val (.ref x), .val (.ref t), .val (.int (Int32.ofNat bs.length)), .val (.int (0 : Int32))] [(.int ((Int32.ofNat bs.length) <<< ((0 : Int32) &&& 31))), (.ref t), (.int (0 : Int32)), (.ref u)])) := c2.trans (by
    refine XS.iloadN X2.here hx rfl (hb hby d23_4) rfl ?_
    refine XS.icmpNo X2.here hx rfl (hb hby d23_5) rfl (teq (by decide : (0 : Int32) = (0 : Int32))).2 ?_
    refine XS.aloadN X2.here hx rfl (hb hby d23_8) rfl rfl ?_
    refine st3 _ ?_
    show Steps p.tables e below (T3.setTop (mkF m 12 #[.val (.ref x), .val (.ref t), .val (.int (Int32.ofNat bs.length)), .val (.int (0 : Int32))] [(.ref u)])) _
    refine XS.iconst X3.here hx rfl (hb hby d23_12) ?_
    refine XS.aloadN X3.here hx rfl (hb hby d23_13) rfl rfl ?_
    refine XS.iloadN X3.here hx rfl (hb hby d23_14) rfl ?_
    refine XS.iloadN X3.here hx rfl (hb hby d23_15) rfl ?_
    refine XS.ishl X3.here hx rfl (hb hby d23_16) rfl ?_
    exact Steps.refl _)
  have eq5 : ((Int32.ofNat bs.length) <<< ((0 : Int32) &&& 31)) = (Int32.ofNat bs.length) := own_sl0 _
  have c5 : Steps p.tables e below S0 (T3.setTop (mkF m 17 #[.val (.ref x), .val (.ref t), .val (.int (Int32.ofNat bs.length)), .val (.int (0 : Int32))] [(.int (Int32.ofNat bs.length)), (.ref t), (.int (0 : Int32)), (.ref u)])) := by have q := c4; rw [eq5] at q; exact q
  obtain ⟨T6, X6, e6, st6⟩ := getF X3 hx hZ hown (host := "") (Or.inl (hw _ (List.mem_of_getElem? (i := 27) rfl))) Via.refl e3 V (g := (mkF m 18 #[.val (.ref x), .val (.ref t), .val (.int (Int32.ofNat bs.length)), .val (.int (0 : Int32))] [(.ref x), (.int (Int32.ofNat bs.length)), (.ref t), (.int (0 : Int32)), (.ref u)])) rfl rfl (hb hby d23_18)
  obtain ⟨cl7, Ar7, q7, S7, M7, H7, G7⟩ := id K
  obtain ⟨T8, h8, L8, X8, e8, N8, K8, V8, st8⟩ := own_cpV X6 hx hZ hown (hw _ (List.mem_of_getElem? (i := 135) rfl)) (hw _ (List.mem_of_getElem? (i := 118) rfl)) (hw _ (List.mem_of_getElem? (i := 116) rfl)) (hw _ (List.mem_of_getElem? (i := 117) rfl)) e6 (cs.length) (L) (0) (bs.length) (cs.length) K Vt rfl (by omega) (by omega) (by omega) (by omega) (own_bv (bs ++ cs)) (own_cp2 bs cs) N2 gt (g := (mkF m 22 #[.val (.ref x), .val (.ref t), .val (.int (Int32.ofNat bs.length)), .val (.int (0 : Int32))] [(.int (Int32.ofNat (cs : List Int32).length)), (.int (Int32.ofNat bs.length)), (.ref t), (.int (0 : Int32)), (.ref u)])) rfl (by rw [hml]; rfl) rfl (hb hby d23_22) (by decide) (W := 0) (by show 2 * 0 + _ ≤ _; exact Nat.le_of_eq rfl) (by decide)
  have c9 : Steps p.tables e below S0 (T8.setTop (mkF m 43 #[.val (.ref x), .val (.ref t), .val (.int (Int32.ofNat bs.length)), .val (.int (0 : Int32))] [])) := c5.trans (by
    refine XS.aloadN X3.here hx rfl (hb hby d23_17) rfl rfl ?_
    refine st6 _ ?_
    refine X6.arraylength hx (by rw [show T6.heap = h0 from e6]; exact Ar7.1) (State.isArrayOf_alike (hZ).alike Ar7.2.1) (g := (mkF m 21 #[.val (.ref x), .val (.ref t), .val (.int (Int32.ofNat bs.length)), .val (.int (0 : Int32))] [(.ref u), (.int (Int32.ofNat bs.length)), (.ref t), (.int (0 : Int32)), (.ref u)])) rfl rfl (hb hby d23_21) _ ?_
    rw [len_of S7 M7]
    refine st8 _ ?_
    show Steps p.tables e below (T8.setTop (mkF m 25 #[.val (.ref x), .val (.ref t), .val (.int (Int32.ofNat bs.length)), .val (.int (0 : Int32))] [])) _
    refine XS.goto X8.here hx rfl (pc0 := 25) (pc' := 43) rfl (hb hby d23_25) (by decide) (by decide) ?_
    exact Steps.refl _)
  refine ⟨T8, none, _, _, _, X8, by decide, by decide, (fun _ => rfl), N8, ?_, fun fs hr => ?_⟩
  · rw [e8]
    exact ⟨rfl, ((Keep.refl h0 [t]).trans K8 (allS (Or.inl (List.mem_of_getElem? (i := 0) rfl)) all0)), V8⟩
  · exact c9.trans (X8.returnOut hx hret (hb hby d23_43) hr)
set_option maxRecDepth 65536 in
set_option maxHeartbeats 40000000 in
theorem rmPSA (l : Launch) (Z : State) (a0 : Array Value) (hw : ∀ d ∈ tables_1, d.before a0 Z = true) (b t : Addr) (kb : ClassId) (L : Nat) (bs : List Int32) (cs : List Int32) (x u : Addr) (ku : ClassId) (z : Int32) (fm : Value) (h0 : Heap) (O0 : Old Z Z.heap.size h0) (hsb : own_SB Z h0 b t kb L bs) (E : Exa Z h0 x "java/lang/String") (V : Fld Z h0 x "java/lang/String" "value" "[B" (.ref u)) (Cd : Fld Z h0 x "java/lang/String" "coder" "B" (.int (0 : Int32))) (K : Arv Z h0 u ku .byte (Int32.ofNat (cs : List Int32).length) (((cs : List Int32).map (fun c : Int32 => c.toInt8.toInt32)).map Value.int) (.int (0 : Int32))) (n1 : x ≠ b) (n2 : x ≠ t) (n3 : u ≠ b) (n4 : u ≠ t) (hcs : cs.length ≤ 4000) (SC : Sta Z Z.heap "java/lang/String" "COMPACT_STRINGS" "Z" (.int z)) (hz : ¬ z = 0) (SF : Sta Z Z.heap "jdk/internal/util/Preconditions" "SIOOBE_FORMATTER" "Ljava/util/function/BiFunction;" fm) (hfm : fm.isRef = true) (hf : bs.length + cs.length ≤ L) :
    own_NC l Z (⟨"java/lang/AbstractStringBuilder", "putStringAt", "(ILjava/lang/String;)V"⟩ : MethodName) jdk_68_method_73_code 3 none ({ frames := 2, cells := 0, slots := 0, locals := 55 } : Room) #[(.ref b), (.int (Int32.ofNat bs.length)), (.ref x)] h0 (fun v h => v = none ∧ Keep h0 h [t] ∧ Arv Z h t kb .byte (Int32.ofNat L) (own_bv (bs ++ cs)) (.int (0 : Int32))) := by
  refine own_nc (plainFor_of_name (by first | (simp [plainName, overriddenIn]; done) | decide +kernel)) ?_
  intro p e s m below meth c s₁ S0 X0 hx hby hml hret hnm hown hZ e0 cc
  have N0 := Fr.nil Z.heap.size
  have c0 : Steps p.tables e below S0 (s₁.setTop (mkF m 0 #[.val (.ref b), .val (.int (Int32.ofNat bs.length)), .val (.ref x)] [])) := cc.trans (XT.entry rfl)
  obtain ⟨Eb, Fc, Fo, Fv, Vt, Et, hle, hL4, hbt, gb, gt⟩ := id hsb
  have c1 : Steps p.tables e below S0 (s₁.setTop (mkF m 2 #[.val (.ref b), .val (.int (Int32.ofNat bs.length)), .val (.ref x)] [(.ref x), (.ref b)])) := c0.trans (by
    refine XS.aloadN X0.here hx rfl (hb hby d21_0) rfl rfl ?_
    refine XS.aloadN X0.here hx rfl (hb hby d21_1) rfl rfl ?_
    exact Steps.refl _)
  obtain ⟨v2, T2, L2, X2, ⟨N2', rfl, e2⟩, c2'⟩ := own_virt X0 hx hml hZ hown (hw _ (List.mem_of_getElem? (i := 124) rfl)) (own_decl (hw _ (List.mem_of_getElem? (i := 125) rfl)) (hw _ (List.mem_of_getElem? (i := 128) rfl))) (hw _ (List.mem_of_getElem? (i := 127) rfl)) (hw _ (List.mem_of_getElem? (i := 125) rfl)) (hw _ (List.mem_of_getElem? (i := 127) rfl)) (by decide) (kc := 0) (ks := 0) (h := h0) (W := 0) (b := b) (argsL := [(.ref x)]) (rest := []) (own_pay (W := 0) (rmInf l Z a0 hw b t kb L bs cs x u ku z fm h0 O0 hsb E V Cd K n1 n2 n3 n4 hcs SC hz SF hfm) hZ (hw _ (List.mem_of_getElem? (i := 128) rfl)) (hw _ (List.mem_of_getElem? (i := 57) rfl)) (by decide) (by decide)) Eb c1 (lenOf pd_5 rfl) rfl (hb hby d21_2) e0
  have N2 := Fr.app N0 N2'
  have c2 : Steps p.tables e below S0 (T2.setTop (mkF m 5 #[.val (.ref b), .val (.int (Int32.ofNat bs.length)), .val (.ref x)] [])) := c2'
  obtain ⟨T3, X3, e3, st3⟩ := getF X2 hx hZ hown (host := "") (Or.inl (hw _ (List.mem_of_getElem? (i := 61) rfl))) Via.refl e2 Fv (g := (mkF m 7 #[.val (.ref b), .val (.int (Int32.ofNat bs.length)), .val (.ref x)] [(.ref b), (.ref x)])) rfl rfl (hb hby d21_7)
  obtain ⟨T4, X4, e4, st4⟩ := getF X3 hx hZ hown (host := "") (Or.inl (hw _ (List.mem_of_getElem? (i := 63) rfl))) Via.refl e3 Fo (g := (mkF m 12 #[.val (.ref b), .val (.int (Int32.ofNat bs.length)), .val (.ref x)] [(.ref b), (.int (Int32.ofNat bs.length)), (.ref t), (.ref x)])) rfl rfl (hb hby d21_12)
  have c5 : Steps p.tables e below S0 (T4.setTop (mkF m 15 #[.val (.ref b), .val (.int (Int32.ofNat bs.length)), .val (.ref x)] [(.int (0 : Int32)), (.int (Int32.ofNat bs.length)), (.ref t), (.ref x)])) := c2.trans (by
    refine XS.aloadN X2.here hx rfl (hb hby d21_5) rfl rfl ?_
    refine XS.aloadN X2.here hx rfl (hb hby d21_6) rfl rfl ?_
    refine st3 _ ?_
    refine XS.iloadN X3.here hx rfl (hb hby d21_10) rfl ?_
    refine XS.aloadN X3.here hx rfl (hb hby d21_11) rfl rfl ?_
    refine st4 _ ?_
    show Steps p.tables e below (T4.setTop (mkF m 15 #[.val (.ref b), .val (.int (Int32.ofNat bs.length)), .val (.ref x)] [(.int (0 : Int32)), (.int (Int32.ofNat bs.length)), (.ref t), (.ref x)])) _
    exact Steps.refl _)
  obtain ⟨v6, T6, L6, X6, ⟨N6', rfl, K6, V6⟩, c6'⟩ := own_virt X4 hx hml hZ hown (hw _ (List.mem_of_getElem? (i := 130) rfl)) (hw _ (List.mem_of_getElem? (i := 131) rfl)) (hw _ (List.mem_of_getElem? (i := 133) rfl)) (hw _ (List.mem_of_getElem? (i := 132) rfl)) (hw _ (List.mem_of_getElem? (i := 133) rfl)) (by decide) (kc := 0) (ks := 0) (h := h0) (W := 0) (b := x) (argsL := [(.ref t), (.int (Int32.ofNat bs.length)), (.int (0 : Int32))]) (rest := []) (own_pay (W := 0) (rmGB l Z a0 hw b t kb L bs cs x u ku z fm h0 O0 hsb E V Cd K n1 n2 n3 n4 hcs SC hz SF hfm hf) hZ (hw _ (List.mem_of_getElem? (i := 134) rfl)) (hw _ (List.mem_of_getElem? (i := 1) rfl)) (by decide) (by decide)) E c5 (lenOf pd_6 rfl) rfl (hb hby d21_15) e4
  have N6 := Fr.app N2 N6'
  have c6 : Steps p.tables e below S0 (T6.setTop (mkF m 18 #[.val (.ref b), .val (.int (Int32.ofNat bs.length)), .val (.ref x)] [])) := c6'
  refine ⟨T6, none, _, _, _, X6, by decide, by decide, (fun _ => rfl), N6, ?_, fun fs hr => ?_⟩
  · skip
    exact ⟨rfl, K6, V6⟩
  · exact c6.trans (X6.returnOut hx hret (hb hby d21_18) hr)
set_option maxRecDepth 65536 in
set_option maxHeartbeats 40000000 in
theorem rmASn (l : Launch) (Z : State) (a0 : Array Value) (hw : ∀ d ∈ tables_1, d.before a0 Z = true) (b t : Addr) (kb : ClassId) (L : Nat) (bs : List Int32) (cs : List Int32) (x u : Addr) (ku : ClassId) (z : Int32) (fm : Value) (h0 : Heap) (O0 : Old Z Z.heap.size h0) (hsb : own_SB Z h0 b t kb L bs) (E : Exa Z h0 x "java/lang/String") (V : Fld Z h0 x "java/lang/String" "value" "[B" (.ref u)) (Cd : Fld Z h0 x "java/lang/String" "coder" "B" (.int (0 : Int32))) (K : Arv Z h0 u ku .byte (Int32.ofNat (cs : List Int32).length) (((cs : List Int32).map (fun c : Int32 => c.toInt8.toInt32)).map Value.int) (.int (0 : Int32))) (n1 : x ≠ b) (n2 : x ≠ t) (n3 : u ≠ b) (n4 : u ≠ t) (hcs : cs.length ≤ 4000) (SC : Sta Z Z.heap "java/lang/String" "COMPACT_STRINGS" "Z" (.int z)) (hz : ¬ z = 0) (SF : Sta Z Z.heap "jdk/internal/util/Preconditions" "SIOOBE_FORMATTER" "Ljava/util/function/BiFunction;" fm) (hfm : fm.isRef = true) (hB : ∀ c ∈ cs, own_B c) (hf : bs.length + cs.length ≤ L) :
    own_NC l Z (⟨"java/lang/AbstractStringBuilder", "append", "(Ljava/lang/String;)Ljava/lang/AbstractStringBuilder;"⟩ : MethodName) jdk_68_method_22_code 3 (some (.object "java/lang/AbstractStringBuilder")) ({ frames := 4, cells := 1, slots := 100, locals := 72 } : Room) #[(.ref b), (.ref x)] h0 (fun v h => v = some (.ref b) ∧ ∃ (t2 : Addr) (kb2 : ClassId) (L2 : Nat), own_SB Z h b t2 kb2 L2 (bs ++ cs) ∧ Keep h0 h [b, t] ∧ (t2 = t ∨ h0.size ≤ t2) ∧ ((bs.length + cs.length ≤ L ∧ L2 = L) ∨ (L < bs.length + cs.length ∧ L2 = (L + max (bs.length + cs.length - L) (L + 2))))) := by
  refine own_nc (plainFor_of_name (by first | (simp [plainName, overriddenIn]; done) | decide +kernel)) ?_
  intro p e s m below meth c s₁ S0 X0 hx hby hml hret hnm hown hZ e0 cc
  have N0 := Fr.nil Z.heap.size
  have c0 : Steps p.tables e below S0 (s₁.setTop (mkF m 0 #[.val (.ref b), .val (.ref x), .unset] [])) := cc.trans (XT.entry rfl)
  obtain ⟨Eb, Fc, Fo, Fv, Vt, Et, hle, hL4, hbt, gb, gt⟩ := id hsb
  have c1 : Steps p.tables e below S0 (s₁.setTop (mkF m 10 #[.val (.ref b), .val (.ref x), .unset] [(.ref x)])) := c0.trans (by
    refine XS.aloadN X0.here hx rfl (hb hby d12_0) rfl rfl ?_
    refine XS.ifnonnullYes X0.here hx rfl (pc0 := 1) (pc' := 9) rfl (hb hby d12_1) rfl (by decide) (by decide) ?_
    refine XS.aloadN X0.here hx rfl (hb hby d12_9) rfl rfl ?_
    exact Steps.refl _)
  obtain ⟨v2, T2, L2, X2, ⟨rfl, rfl, e2⟩, c2'⟩ := own_virt X0 hx hml hZ hown (hw _ (List.mem_of_getElem? (i := 76) rfl)) (hw _ (List.mem_of_getElem? (i := 77) rfl)) (hw _ (List.mem_of_getElem? (i := 79) rfl)) (hw _ (List.mem_of_getElem? (i := 78) rfl)) (hw _ (List.mem_of_getElem? (i := 79) rfl)) (by decide) (Q := fun v h' L => v = some (.int (Int32.ofNat (cs : List Int32).length)) ∧ L = [] ∧ h' = h0) (kc := 0) (ks := 0) (h := h0) (W := 0) (b := x) (argsL := []) (rest := []) (StrChars.Road.lenW (s := s) (R := ({ frames := 4, cells := 1, slots := 100, locals := 72 } : Room)) (W := 0) hZ (own_wl hw) (kI := 4) (hw _ (List.mem_of_getElem? (i := 2) rfl)) (cs := cs) E V Cd K (StrChars.Road.codOf (n := (cs : List Int32).length) rfl (fun c hc => (hB c hc).rng.2)) (fun c hc => (hB c hc).rng2) (SC.ext O0.2) hz hcs (by decide) (by decide)) E c1 (lenOf pd_7 rfl) rfl (hb hby d12_10) e0
  have N2 := Fr.app N0 (Fr.nil _)
  have c2 : Steps p.tables e below S0 (T2.setTop (mkF m 13 #[.val (.ref b), .val (.ref x), .unset] [(.int (Int32.ofNat (cs : List Int32).length))])) := c2'
  obtain ⟨T3, X3, e3, st3⟩ := getF X2 hx hZ hown (host := "") (Or.inl (hw _ (List.mem_of_getElem? (i := 86) rfl))) Via.refl e2 Fc (g := (mkF m 16 #[.val (.ref b), .val (.ref x), .val (.int (Int32.ofNat (cs : List Int32).length))] [(.ref b), (.ref b)])) rfl rfl (hb hby d12_16)
  have c4 : Steps p.tables e below S0 (T3.setTop (mkF m 21 #[.val (.ref b), .val (.ref x), .val (.int (Int32.ofNat (cs : List Int32).length))] [(.int ((Int32.ofNat bs.length) + (Int32.ofNat (cs : List Int32).length))), (.ref b)])) := c2.trans (by
    refine XS.istoreN X2.here hx rfl (hb hby d12_13) rfl (l' := #[.val (.ref b), .val (.ref x), .val (.int (Int32.ofNat (cs : List Int32).length))]) rfl ?_
    refine XS.aloadN X2.here hx rfl (hb hby d12_14) rfl rfl ?_
    refine XS.aloadN X2.here hx rfl (hb hby d12_15) rfl rfl ?_
    refine st3 _ ?_
    show Steps p.tables e below (T3.setTop (mkF m 19 #[.val (.ref b), .val (.ref x), .val (.int (Int32.ofNat (cs : List Int32).length))] [(.int (Int32.ofNat bs.length)), (.ref b)])) _
    refine XS.iloadN X3.here hx rfl (hb hby d12_19) rfl ?_
    refine XS.iadd X3.here hx rfl (hb hby d12_20) rfl ?_
    exact Steps.refl _)
  have eq5 : ((Int32.ofNat bs.length) + (Int32.ofNat (cs : List Int32).length)) = (Int32.ofNat (bs.length + cs.length)) := own_addN _ _
  have c5 : Steps p.tables e below S0 (T3.setTop (mkF m 21 #[.val (.ref b), .val (.ref x), .val (.int (Int32.ofNat (cs : List Int32).length))] [(.int (Int32.ofNat (bs.length + cs.length))), (.ref b)])) := by have q := c4; rw [eq5] at q; exact q
  obtain ⟨v6, T6, L6, X6, ⟨N6', rfl, e6⟩, c6'⟩ := own_virt X3 hx hml hZ hown (hw _ (List.mem_of_getElem? (i := 88) rfl)) (own_decl (hw _ (List.mem_of_getElem? (i := 89) rfl)) (hw _ (List.mem_of_getElem? (i := 92) rfl))) (hw _ (List.mem_of_getElem? (i := 91) rfl)) (hw _ (List.mem_of_getElem? (i := 89) rfl)) (hw _ (List.mem_of_getElem? (i := 91) rfl)) (by decide) (kc := 0) (ks := 0) (h := h0) (W := 0) (b := b) (argsL := [(.int (Int32.ofNat (bs.length + cs.length)))]) (rest := []) (own_pay (W := 0) (rmEnsN l Z a0 hw b t kb L bs (bs.length + cs.length) h0 O0 hsb hf) hZ (hw _ (List.mem_of_getElem? (i := 92) rfl)) (hw _ (List.mem_of_getElem? (i := 57) rfl)) (by decide) (by decide)) Eb c5 (lenOf pd_8 rfl) rfl (hb hby d12_21) e3
  have N6 := Fr.app N2 N6'
  have c6 : Steps p.tables e below S0 (T6.setTop (mkF m 24 #[.val (.ref b), .val (.ref x), .val (.int (Int32.ofNat (cs : List Int32).length))] [])) := c6'
  obtain ⟨T7, X7, e7, st7⟩ := getF X6 hx hZ hown (host := "") (Or.inl (hw _ (List.mem_of_getElem? (i := 86) rfl))) Via.refl e6 Fc (g := (mkF m 26 #[.val (.ref b), .val (.ref x), .val (.int (Int32.ofNat (cs : List Int32).length))] [(.ref b), (.ref b)])) rfl rfl (hb hby d12_26)
  have c8 : Steps p.tables e below S0 (T7.setTop (mkF m 30 #[.val (.ref b), .val (.ref x), .val (.int (Int32.ofNat (cs : List Int32).length))] [(.ref x), (.int (Int32.ofNat bs.length)), (.ref b)])) := c6.trans (by
    refine XS.aloadN X6.here hx rfl (hb hby d12_24) rfl rfl ?_
    refine XS.aloadN X6.here hx rfl (hb hby d12_25) rfl rfl ?_
    refine st7 _ ?_
    refine XS.aloadN X7.here hx rfl (hb hby d12_29) rfl rfl ?_
    exact Steps.refl _)
  obtain ⟨v9, T9, L9, X9, ⟨N9', rfl, K9, V9⟩, c9'⟩ := own_virt X7 hx hml hZ hown (hw _ (List.mem_of_getElem? (i := 119) rfl)) (own_decl (hw _ (List.mem_of_getElem? (i := 120) rfl)) (hw _ (List.mem_of_getElem? (i := 123) rfl))) (hw _ (List.mem_of_getElem? (i := 122) rfl)) (hw _ (List.mem_of_getElem? (i := 120) rfl)) (hw _ (List.mem_of_getElem? (i := 122) rfl)) (by decide) (kc := 0) (ks := 0) (h := h0) (W := 0) (b := b) (argsL := [(.int (Int32.ofNat bs.length)), (.ref x)]) (rest := []) (own_pay (W := 0) (rmPSA l Z a0 hw b t kb L bs cs x u ku z fm h0 O0 hsb E V Cd K n1 n2 n3 n4 hcs SC hz SF hfm (by omega)) hZ (hw _ (List.mem_of_getElem? (i := 123) rfl)) (hw _ (List.mem_of_getElem? (i := 57) rfl)) (by decide) (by decide)) Eb c8 (lenOf pd_9 rfl) rfl (hb hby d12_30) e7
  have N9 := Fr.app N6 N9'
  have c9 : Steps p.tables e below S0 (T9.setTop (mkF m 33 #[.val (.ref b), .val (.ref x), .val (.int (Int32.ofNat (cs : List Int32).length))] [])) := c9'
  obtain ⟨T10, X10, e10, st10⟩ := getF X9 hx hZ hown (host := "") (Or.inl (hw _ (List.mem_of_getElem? (i := 86) rfl))) Via.refl rfl (Fc.keep K9 (ninS hbt nin0)) (g := (mkF m 35 #[.val (.ref b), .val (.ref x), .val (.int (Int32.ofNat (cs : List Int32).length))] [(.ref b), (.ref b)])) rfl rfl (hb hby d12_35)
  have c11 : Steps p.tables e below S0 (T10.setTop (mkF m 40 #[.val (.ref b), .val (.ref x), .val (.int (Int32.ofNat (cs : List Int32).length))] [(.int ((Int32.ofNat bs.length) + (Int32.ofNat (cs : List Int32).length))), (.ref b)])) := c9.trans (by
    refine XS.aloadN X9.here hx rfl (hb hby d12_33) rfl rfl ?_
    refine XS.dup X9.here hx rfl (hb hby d12_34) rfl rfl ?_
    refine st10 _ ?_
    refine XS.iloadN X10.here hx rfl (hb hby d12_38) rfl ?_
    refine XS.iadd X10.here hx rfl (hb hby d12_39) rfl ?_
    exact Steps.refl _)
  have eq12 : ((Int32.ofNat bs.length) + (Int32.ofNat (cs : List Int32).length)) = (Int32.ofNat (bs ++ cs).length) := own_lenB bs cs
  have c12 : Steps p.tables e below S0 (T10.setTop (mkF m 40 #[.val (.ref b), .val (.ref x), .val (.int (Int32.ofNat (cs : List Int32).length))] [(.int (Int32.ofNat (bs ++ cs).length)), (.ref b)])) := by have q := c11; rw [eq12] at q; exact q
  obtain ⟨T13, h13, X13, e13, W13, st13⟩ := putF X10 hx hZ hown (host := "") (Or.inl (hw _ (List.mem_of_getElem? (i := 86) rfl))) Via.refl e10 (Fc.keep K9 (ninS hbt nin0)) (Eb.keep K9) (Or.inl (hw _ (List.mem_of_getElem? (i := 87) rfl))) (hw _ (List.mem_of_getElem? (i := 48) rfl)) (ty := .int) (by decide) rfl rfl (g := (mkF m 40 #[.val (.ref b), .val (.ref x), .val (.int (Int32.ofNat (cs : List Int32).length))] [(.int (Int32.ofNat (bs ++ cs).length)), (.ref b)])) rfl rfl (hb hby d12_40)
  have N13 := Fr.snoc X13 N9 gb
  have Fw13 := (Fc.keep K9 (ninS hbt nin0)).same W13
  have c14 : Steps p.tables e below S0 (T13.setTop (mkF m 44 #[.val (.ref b), .val (.ref x), .val (.int (Int32.ofNat (cs : List Int32).length))] [(.ref b)])) := c12.trans (by
    refine st13 _ ?_
    refine XS.aloadN X13.here hx rfl (hb hby d12_43) rfl rfl ?_
    exact Steps.refl _)
  refine ⟨T13, (some (.ref b)), _, _, _, X13, by decide, by decide, (fun q => by cases q), N13, ?_, fun fs hr => ?_⟩
  · rw [e13]
    exact ⟨rfl, t, kb, L, ⟨((Eb.keep K9).wr W13), Fw13, ((Fo.keep K9 (ninS hbt nin0)).other W13 (Or.inr (slot_ne (Or.inl (hw _ (List.mem_of_getElem? (i := 64) rfl))) (Or.inl (hw _ (List.mem_of_getElem? (i := 87) rfl))) (by decide) (t := .byte) (t' := .int) (by decide) (by decide)))), ((Fv.keep K9 (ninS hbt nin0)).other W13 (Or.inr (slot_ne (Or.inl (hw _ (List.mem_of_getElem? (i := 62) rfl))) (Or.inl (hw _ (List.mem_of_getElem? (i := 87) rfl))) (by decide) (t := (.array .byte)) (t' := .int) (by decide) (by decide)))), (V9.other W13 (Ne.symm hbt)), ((Et.keep K9).wr W13), (by simp; omega), (by omega), hbt, gb, gt⟩, (((Keep.refl h0 [b, t]).trans K9 (allS (Or.inl (List.mem_of_getElem? (i := 1) rfl)) all0)).wr W13 (Or.inl (List.mem_of_getElem? (i := 0) rfl))), Or.inl rfl, Or.inl ⟨hf, rfl⟩⟩
  · exact own_retR X13 hx c14 hret rfl rfl (hb hby d12_44) hr
set_option maxRecDepth 65536 in
set_option maxHeartbeats 40000000 in
theorem rmASg (l : Launch) (Z : State) (a0 : Array Value) (hw : ∀ d ∈ tables_1, d.before a0 Z = true) (b t : Addr) (kb : ClassId) (L : Nat) (bs : List Int32) (cs : List Int32) (x u : Addr) (ku : ClassId) (z : Int32) (fm : Value) (h0 : Heap) (O0 : Old Z Z.heap.size h0) (hsb : own_SB Z h0 b t kb L bs) (E : Exa Z h0 x "java/lang/String") (V : Fld Z h0 x "java/lang/String" "value" "[B" (.ref u)) (Cd : Fld Z h0 x "java/lang/String" "coder" "B" (.int (0 : Int32))) (K : Arv Z h0 u ku .byte (Int32.ofNat (cs : List Int32).length) (((cs : List Int32).map (fun c : Int32 => c.toInt8.toInt32)).map Value.int) (.int (0 : Int32))) (n1 : x ≠ b) (n2 : x ≠ t) (n3 : u ≠ b) (n4 : u ≠ t) (hcs : cs.length ≤ 4000) (SC : Sta Z Z.heap "java/lang/String" "COMPACT_STRINGS" "Z" (.int z)) (hz : ¬ z = 0) (SF : Sta Z Z.heap "jdk/internal/util/Preconditions" "SIOOBE_FORMATTER" "Ljava/util/function/BiFunction;" fm) (hfm : fm.isRef = true) (hB : ∀ c ∈ cs, own_B c) (hf : L < bs.length + cs.length) (hcap : (L + max (bs.length + cs.length - L) (L + 2)) ≤ 100) :
    own_NC l Z (⟨"java/lang/AbstractStringBuilder", "append", "(Ljava/lang/String;)Ljava/lang/AbstractStringBuilder;"⟩ : MethodName) jdk_68_method_22_code 3 (some (.object "java/lang/AbstractStringBuilder")) ({ frames := 4, cells := 1, slots := 100, locals := 72 } : Room) #[(.ref b), (.ref x)] h0 (fun v h => v = some (.ref b) ∧ ∃ (t2 : Addr) (kb2 : ClassId) (L2 : Nat), own_SB Z h b t2 kb2 L2 (bs ++ cs) ∧ Keep h0 h [b, t] ∧ (t2 = t ∨ h0.size ≤ t2) ∧ ((bs.length + cs.length ≤ L ∧ L2 = L) ∨ (L < bs.length + cs.length ∧ L2 = (L + max (bs.length + cs.length - L) (L + 2))))) := by
  refine own_nc (plainFor_of_name (by first | (simp [plainName, overriddenIn]; done) | decide +kernel)) ?_
  intro p e s m below meth c s₁ S0 X0 hx hby hml hret hnm hown hZ e0 cc
  have N0 := Fr.nil Z.heap.size
  have c0 : Steps p.tables e below S0 (s₁.setTop (mkF m 0 #[.val (.ref b), .val (.ref x), .unset] [])) := cc.trans (XT.entry rfl)
  obtain ⟨Eb, Fc, Fo, Fv, Vt, Et, hle, hL4, hbt, gb, gt⟩ := id hsb
  have c1 : Steps p.tables e below S0 (s₁.setTop (mkF m 10 #[.val (.ref b), .val (.ref x), .unset] [(.ref x)])) := c0.trans (by
    refine XS.aloadN X0.here hx rfl (hb hby d12_0) rfl rfl ?_
    refine XS.ifnonnullYes X0.here hx rfl (pc0 := 1) (pc' := 9) rfl (hb hby d12_1) rfl (by decide) (by decide) ?_
    refine XS.aloadN X0.here hx rfl (hb hby d12_9) rfl rfl ?_
    exact Steps.refl _)
  obtain ⟨v2, T2, L2, X2, ⟨rfl, rfl, e2⟩, c2'⟩ := own_virt X0 hx hml hZ hown (hw _ (List.mem_of_getElem? (i := 76) rfl)) (hw _ (List.mem_of_getElem? (i := 77) rfl)) (hw _ (List.mem_of_getElem? (i := 79) rfl)) (hw _ (List.mem_of_getElem? (i := 78) rfl)) (hw _ (List.mem_of_getElem? (i := 79) rfl)) (by decide) (Q := fun v h' L => v = some (.int (Int32.ofNat (cs : List Int32).length)) ∧ L = [] ∧ h' = h0) (kc := 0) (ks := 0) (h := h0) (W := 0) (b := x) (argsL := []) (rest := []) (StrChars.Road.lenW (s := s) (R := ({ frames := 4, cells := 1, slots := 100, locals := 72 } : Room)) (W := 0) hZ (own_wl hw) (kI := 4) (hw _ (List.mem_of_getElem? (i := 2) rfl)) (cs := cs) E V Cd K (StrChars.Road.codOf (n := (cs : List Int32).length) rfl (fun c hc => (hB c hc).rng.2)) (fun c hc => (hB c hc).rng2) (SC.ext O0.2) hz hcs (by decide) (by decide)) E c1 (lenOf pd_7 rfl) rfl (hb hby d12_10) e0
  have N2 := Fr.app N0 (Fr.nil _)
  have c2 : Steps p.tables e below S0 (T2.setTop (mkF m 13 #[.val (.ref b), .val (.ref x), .unset] [(.int (Int32.ofNat (cs : List Int32).length))])) := c2'
  obtain ⟨T3, X3, e3, st3⟩ := getF X2 hx hZ hown (host := "") (Or.inl (hw _ (List.mem_of_getElem? (i := 86) rfl))) Via.refl e2 Fc (g := (mkF m 16 #[.val (.ref b), .val (.ref x), .val (.int (Int32.ofNat (cs : List Int32).length))] [(.ref b), (.ref b)])) rfl rfl (hb hby d12_16)
  have c4 : Steps p.tables e below S0 (T3.setTop (mkF m 21 #[.val (.ref b), .val (.ref x), .val (.int (Int32.ofNat (cs : List Int32).length))] [(.int ((Int32.ofNat bs.length) + (Int32.ofNat (cs : List Int32).length))), (.ref b)])) := c2.trans (by
    refine XS.istoreN X2.here hx rfl (hb hby d12_13) rfl (l' := #[.val (.ref b), .val (.ref x), .val (.int (Int32.ofNat (cs : List Int32).length))]) rfl ?_
    refine XS.aloadN X2.here hx rfl (hb hby d12_14) rfl rfl ?_
    refine XS.aloadN X2.here hx rfl (hb hby d12_15) rfl rfl ?_
    refine st3 _ ?_
    show Steps p.tables e below (T3.setTop (mkF m 19 #[.val (.ref b), .val (.ref x), .val (.int (Int32.ofNat (cs : List Int32).length))] [(.int (Int32.ofNat bs.length)), (.ref b)])) _
    refine XS.iloadN X3.here hx rfl (hb hby d12_19) rfl ?_
    refine XS.iadd X3.here hx rfl (hb hby d12_20) rfl ?_
    exact Steps.refl _)
  have eq5 : ((Int32.ofNat bs.length) + (Int32.ofNat (cs : List Int32).length)) = (Int32.ofNat (bs.length + cs.length)) := own_addN _ _
  have c5 : Steps p.tables e below S0 (T3.setTop (mkF m 21 #[.val (.ref b), .val (.ref x), .val (.int (Int32.ofNat (cs : List Int32).length))] [(.int (Int32.ofNat (bs.length + cs.length))), (.ref b)])) := by have q := c4; rw [eq5] at q; exact q
  obtain ⟨v6, T6, L6, X6, ⟨N6', rfl, t6, kb6, SB6, K6, lo6⟩, c6'⟩ := own_virt X3 hx hml hZ hown (hw _ (List.mem_of_getElem? (i := 88) rfl)) (own_decl (hw _ (List.mem_of_getElem? (i := 89) rfl)) (hw _ (List.mem_of_getElem? (i := 92) rfl))) (hw _ (List.mem_of_getElem? (i := 91) rfl)) (hw _ (List.mem_of_getElem? (i := 89) rfl)) (hw _ (List.mem_of_getElem? (i := 91) rfl)) (by decide) (kc := 1) (ks := 100) (h := h0) (W := 0) (b := b) (argsL := [(.int (Int32.ofNat (bs.length + cs.length)))]) (rest := []) (own_pay (W := 0) (rmEnsG l Z a0 hw b t kb L bs (bs.length + cs.length) h0 O0 hsb hf hcap) hZ (hw _ (List.mem_of_getElem? (i := 92) rfl)) (hw _ (List.mem_of_getElem? (i := 57) rfl)) (by decide) (by decide)) Eb c5 (lenOf pd_8 rfl) rfl (hb hby d12_21) e3
  have N6 := Fr.app N2 N6'
  have c6 : Steps p.tables e below S0 (T6.setTop (mkF m 24 #[.val (.ref b), .val (.ref x), .val (.int (Int32.ofNat (cs : List Int32).length))] [])) := c6'
  obtain ⟨Eb6, Fc6, Fo6, Fv6, Vt6, Et6, hle6, hL46, hbt6, gb6, gt6⟩ := id SB6
  obtain ⟨T7, X7, e7, st7⟩ := getF X6 hx hZ hown (host := "") (Or.inl (hw _ (List.mem_of_getElem? (i := 86) rfl))) Via.refl rfl Fc6 (g := (mkF m 26 #[.val (.ref b), .val (.ref x), .val (.int (Int32.ofNat (cs : List Int32).length))] [(.ref b), (.ref b)])) rfl rfl (hb hby d12_26)
  have c8 : Steps p.tables e below S0 (T7.setTop (mkF m 30 #[.val (.ref b), .val (.ref x), .val (.int (Int32.ofNat (cs : List Int32).length))] [(.ref x), (.int (Int32.ofNat bs.length)), (.ref b)])) := c6.trans (by
    refine XS.aloadN X6.here hx rfl (hb hby d12_24) rfl rfl ?_
    refine XS.aloadN X6.here hx rfl (hb hby d12_25) rfl rfl ?_
    refine st7 _ ?_
    refine XS.aloadN X7.here hx rfl (hb hby d12_29) rfl rfl ?_
    exact Steps.refl _)
  obtain ⟨v9, T9, L9, X9, ⟨N9', rfl, K9, V9⟩, c9'⟩ := own_virt X7 hx hml hZ hown (hw _ (List.mem_of_getElem? (i := 119) rfl)) (own_decl (hw _ (List.mem_of_getElem? (i := 120) rfl)) (hw _ (List.mem_of_getElem? (i := 123) rfl))) (hw _ (List.mem_of_getElem? (i := 122) rfl)) (hw _ (List.mem_of_getElem? (i := 120) rfl)) (hw _ (List.mem_of_getElem? (i := 122) rfl)) (by decide) (kc := 0) (ks := 0) (h := T6.heap) (W := 0) (b := b) (argsL := [(.int (Int32.ofNat bs.length)), (.ref x)]) (rest := []) (own_pay (W := 0) (rmPSA l Z a0 hw b t6 kb6 (L + max (bs.length + cs.length - L) (L + 2)) bs cs x u ku z fm T6.heap (O0.keep K6 (allS gb6 all0)) SB6 (E.keep K6) (V.keep K6 (ninS n1 nin0)) (Cd.keep K6 (ninS n1 nin0)) (K.keep K6 (ninS n3 nin0)) n1 (Nat.ne_of_lt (Nat.lt_of_lt_of_le E.lt lo6)) n3 (Nat.ne_of_lt (Nat.lt_of_lt_of_le K.lt lo6)) hcs SC hz SF hfm (by omega)) hZ (hw _ (List.mem_of_getElem? (i := 123) rfl)) (hw _ (List.mem_of_getElem? (i := 57) rfl)) (by decide) (by decide)) Eb6 c8 (lenOf pd_9 rfl) rfl (hb hby d12_30) e7
  have N9 := Fr.app N6 N9'
  have c9 : Steps p.tables e below S0 (T9.setTop (mkF m 33 #[.val (.ref b), .val (.ref x), .val (.int (Int32.ofNat (cs : List Int32).length))] [])) := c9'
  obtain ⟨T10, X10, e10, st10⟩ := getF X9 hx hZ hown (host := "") (Or.inl (hw _ (List.mem_of_getElem? (i := 86) rfl))) Via.refl rfl (Fc6.keep K9 (ninS hbt6 nin0)) (g := (mkF m 35 #[.val (.ref b), .val (.ref x), .val (.int (Int32.ofNat (cs : List Int32).length))] [(.ref b), (.ref b)])) rfl rfl (hb hby d12_35)
  have c11 : Steps p.tables e below S0 (T10.setTop (mkF m 40 #[.val (.ref b), .val (.ref x), .val (.int (Int32.ofNat (cs : List Int32).length))] [(.int ((Int32.ofNat bs.length) + (Int32.ofNat (cs : List Int32).length))), (.ref b)])) := c9.trans (by
    refine XS.aloadN X9.here hx rfl (hb hby d12_33) rfl rfl ?_
    refine XS.dup X9.here hx rfl (hb hby d12_34) rfl rfl ?_
    refine st10 _ ?_
    refine XS.iloadN X10.here hx rfl (hb hby d12_38) rfl ?_
    refine XS.iadd X10.here hx rfl (hb hby d12_39) rfl ?_
    exact Steps.refl _)
  have eq12 : ((Int32.ofNat bs.length) + (Int32.ofNat (cs : List Int32).length)) = (Int32.ofNat (bs ++ cs).length) := own_lenB bs cs
  have c12 : Steps p.tables e below S0 (T10.setTop (mkF m 40 #[.val (.ref b), .val (.ref x), .val (.int (Int32.ofNat (cs : List Int32).length))] [(.int (Int32.ofNat (bs ++ cs).length)), (.ref b)])) := by have q := c11; rw [eq12] at q; exact q
  obtain ⟨T13, h13, X13, e13, W13, st13⟩ := putF X10 hx hZ hown (host := "") (Or.inl (hw _ (List.mem_of_getElem? (i := 86) rfl))) Via.refl e10 (Fc6.keep K9 (ninS hbt6 nin0)) (Eb6.keep K9) (Or.inl (hw _ (List.mem_of_getElem? (i := 87) rfl))) (hw _ (List.mem_of_getElem? (i := 48) rfl)) (ty := .int) (by decide) rfl rfl (g := (mkF m 40 #[.val (.ref b), .val (.ref x), .val (.int (Int32.ofNat (cs : List Int32).length))] [(.int (Int32.ofNat (bs ++ cs).length)), (.ref b)])) rfl rfl (hb hby d12_40)
  have N13 := Fr.snoc X13 N9 gb6
  have Fw13 := (Fc6.keep K9 (ninS hbt6 nin0)).same W13
  have c14 : Steps p.tables e below S0 (T13.setTop (mkF m 44 #[.val (.ref b), .val (.ref x), .val (.int (Int32.ofNat (cs : List Int32).length))] [(.ref b)])) := c12.trans (by
    refine st13 _ ?_
    refine XS.aloadN X13.here hx rfl (hb hby d12_43) rfl rfl ?_
    exact Steps.refl _)
  refine ⟨T13, (some (.ref b)), _, _, _, X13, by decide, by decide, (fun q => by cases q), N13, ?_, fun fs hr => ?_⟩
  · rw [e13]
    exact ⟨rfl, t6, kb6, (L + max (bs.length + cs.length - L) (L + 2)), ⟨((Eb6.keep K9).wr W13), Fw13, ((Fo6.keep K9 (ninS hbt6 nin0)).other W13 (Or.inr (slot_ne (Or.inl (hw _ (List.mem_of_getElem? (i := 64) rfl))) (Or.inl (hw _ (List.mem_of_getElem? (i := 87) rfl))) (by decide) (t := .byte) (t' := .int) (by decide) (by decide)))), ((Fv6.keep K9 (ninS hbt6 nin0)).other W13 (Or.inr (slot_ne (Or.inl (hw _ (List.mem_of_getElem? (i := 62) rfl))) (Or.inl (hw _ (List.mem_of_getElem? (i := 87) rfl))) (by decide) (t := (.array .byte)) (t' := .int) (by decide) (by decide)))), (V9.other W13 (Ne.symm hbt6)), ((Et6.keep K9).wr W13), (by simp; omega), (by omega), hbt6, gb6, gt6⟩, ((((Keep.refl h0 [b, t]).trans K6 (allS (Or.inl (List.mem_of_getElem? (i := 0) rfl)) all0)).trans K9 (allS (Or.inr (Nat.le_trans (Keep.refl h0 []).1 lo6)) all0)).wr W13 (Or.inl (List.mem_of_getElem? (i := 0) rfl))), Or.inr (Nat.le_trans (Keep.refl h0 []).1 lo6), Or.inr ⟨hf, rfl⟩⟩
  · exact own_retR X13 hx c14 hret rfl rfl (hb hby d12_44) hr
theorem rmAS (l : Launch) (Z : State) (a0 : Array Value) (hw : ∀ d ∈ tables_1, d.before a0 Z = true) (b t : Addr) (kb : ClassId) (L : Nat) (bs : List Int32) (cs : List Int32) (x u : Addr) (ku : ClassId) (z : Int32) (fm : Value) (h0 : Heap) (O0 : Old Z Z.heap.size h0) (hsb : own_SB Z h0 b t kb L bs) (E : Exa Z h0 x "java/lang/String") (V : Fld Z h0 x "java/lang/String" "value" "[B" (.ref u)) (Cd : Fld Z h0 x "java/lang/String" "coder" "B" (.int (0 : Int32))) (K : Arv Z h0 u ku .byte (Int32.ofNat (cs : List Int32).length) (((cs : List Int32).map (fun c : Int32 => c.toInt8.toInt32)).map Value.int) (.int (0 : Int32))) (n1 : x ≠ b) (n2 : x ≠ t) (n3 : u ≠ b) (n4 : u ≠ t) (hcs : cs.length ≤ 4000) (SC : Sta Z Z.heap "java/lang/String" "COMPACT_STRINGS" "Z" (.int z)) (hz : ¬ z = 0) (SF : Sta Z Z.heap "jdk/internal/util/Preconditions" "SIOOBE_FORMATTER" "Ljava/util/function/BiFunction;" fm) (hfm : fm.isRef = true) (hB : ∀ c ∈ cs, own_B c) (hcap : bs.length + cs.length ≤ L ∨ (L + max (bs.length + cs.length - L) (L + 2)) ≤ 100) : own_NC l Z (⟨"java/lang/AbstractStringBuilder", "append", "(Ljava/lang/String;)Ljava/lang/AbstractStringBuilder;"⟩ : MethodName) jdk_68_method_22_code 3 (some (.object "java/lang/AbstractStringBuilder")) ({ frames := 4, cells := 1, slots := 100, locals := 72 } : Room) #[.ref b, .ref x] h0 (fun v h => v = some (.ref b) ∧ ∃ (t2 : Addr) (kb2 : ClassId) (L2 : Nat), own_SB Z h b t2 kb2 L2 (bs ++ cs) ∧ Keep h0 h [b, t] ∧ (t2 = t ∨ h0.size ≤ t2) ∧ ((bs.length + cs.length ≤ L ∧ L2 = L) ∨ (L < bs.length + cs.length ∧ L2 = (L + max (bs.length + cs.length - L) (L + 2))))) := by
  by_cases q : bs.length + cs.length ≤ L
  · exact rmASn l Z a0 hw b t kb L bs cs x u ku z fm h0 O0 hsb E V Cd K n1 n2 n3 n4 hcs SC hz SF hfm hB q
  · exact rmASg l Z a0 hw b t kb L bs cs x u ku z fm h0 O0 hsb E V Cd K n1 n2 n3 n4 hcs SC hz SF hfm hB (by omega) (by omega)
set_option maxRecDepth 65536 in
set_option maxHeartbeats 40000000 in
theorem rmSS (l : Launch) (Z : State) (a0 : Array Value) (hw : ∀ d ∈ tables_1, d.before a0 Z = true) (b t : Addr) (kb : ClassId) (L : Nat) (bs : List Int32) (cs : List Int32) (x u : Addr) (ku : ClassId) (z : Int32) (fm : Value) (h0 : Heap) (O0 : Old Z Z.heap.size h0) (hsb : own_SB Z h0 b t kb L bs) (E : Exa Z h0 x "java/lang/String") (V : Fld Z h0 x "java/lang/String" "value" "[B" (.ref u)) (Cd : Fld Z h0 x "java/lang/String" "coder" "B" (.int (0 : Int32))) (K : Arv Z h0 u ku .byte (Int32.ofNat (cs : List Int32).length) (((cs : List Int32).map (fun c : Int32 => c.toInt8.toInt32)).map Value.int) (.int (0 : Int32))) (n1 : x ≠ b) (n2 : x ≠ t) (n3 : u ≠ b) (n4 : u ≠ t) (hcs : cs.length ≤ 4000) (SC : Sta Z Z.heap "java/lang/String" "COMPACT_STRINGS" "Z" (.int z)) (hz : ¬ z = 0) (SF : Sta Z Z.heap "jdk/internal/util/Preconditions" "SIOOBE_FORMATTER" "Ljava/util/function/BiFunction;" fm) (hfm : fm.isRef = true) (hB : ∀ c ∈ cs, own_B c) (hcap : bs.length + cs.length ≤ L ∨ (L + max (bs.length + cs.length - L) (L + 2)) ≤ 100) :
    own_NC l Z (⟨"java/lang/StringBuilder", "append", "(Ljava/lang/String;)Ljava/lang/StringBuilder;"⟩ : MethodName) jdk_67_method_7_code 2 (some (.object "java/lang/StringBuilder")) ({ frames := 5, cells := 1, slots := 100, locals := 90 } : Room) #[(.ref b), (.ref x)] h0 (fun v h => v = some (.ref b) ∧ ∃ (t2 : Addr) (kb2 : ClassId) (L2 : Nat), own_SB Z h b t2 kb2 L2 (bs ++ cs) ∧ Keep h0 h [b, t] ∧ (t2 = t ∨ h0.size ≤ t2) ∧ ((bs.length + cs.length ≤ L ∧ L2 = L) ∨ (L < bs.length + cs.length ∧ L2 = (L + max (bs.length + cs.length - L) (L + 2))))) := by
  refine own_nc (plainFor_of_name (by first | (simp [plainName, overriddenIn]; done) | decide +kernel)) ?_
  intro p e s m below meth c s₁ S0 X0 hx hby hml hret hnm hown hZ e0 cc
  have N0 := Fr.nil Z.heap.size
  have c0 : Steps p.tables e below S0 (s₁.setTop (mkF m 0 #[.val (.ref b), .val (.ref x)] [])) := cc.trans (XT.entry rfl)
  obtain ⟨Eb, Fc, Fo, Fv, Vt, Et, hle, hL4, hbt, gb, gt⟩ := id hsb
  have c1 : Steps p.tables e below S0 (s₁.setTop (mkF m 2 #[.val (.ref b), .val (.ref x)] [(.ref x), (.ref b)])) := c0.trans (by
    refine XS.aloadN X0.here hx rfl (hb hby d11_0) rfl rfl ?_
    refine XS.aloadN X0.here hx rfl (hb hby d11_1) rfl rfl ?_
    exact Steps.refl _)
  obtain ⟨v2, T2, L2, X2, ⟨N2', rfl, t2, kb2, M2, SB2, K2, ht2, hM2⟩, c2'⟩ := own_super X0 hx hml hZ hown (by decide) (hw _ (List.mem_of_getElem? (i := 71) rfl)) (own_same (y2 := (⟨"java/lang/AbstractStringBuilder", "ensureCapacityInternal", "(I)V"⟩ : MethodName)) rfl (hw _ (List.mem_of_getElem? (i := 72) rfl)) (hw _ (List.mem_of_getElem? (i := 89) rfl)) (hw _ (List.mem_of_getElem? (i := 91) rfl)) (by decide)) (hw _ (List.mem_of_getElem? (i := 72) rfl)) (hw _ (List.mem_of_getElem? (i := 73) rfl)) (hw _ (List.mem_of_getElem? (i := 75) rfl)) (kc := 1) (ks := 100) (h := h0) (W := 0) (b := b) (argsL := [(.ref x)]) (rest := []) (own_pay (W := 0) (rmAS l Z a0 hw b t kb L bs cs x u ku z fm h0 O0 hsb E V Cd K n1 n2 n3 n4 hcs SC hz SF hfm hB hcap) hZ (hw _ (List.mem_of_getElem? (i := 75) rfl)) (hw _ (List.mem_of_getElem? (i := 57) rfl)) (by decide) (by decide)) Eb c1 (lenOf pd_10 rfl) rfl (hb hby d11_2) e0
  have N2 := Fr.app N0 N2'
  have c2 : Steps p.tables e below S0 (T2.setTop (mkF m 5 #[.val (.ref b), .val (.ref x)] [(.ref b)])) := c2'
  have c3 : Steps p.tables e below S0 (T2.setTop (mkF m 7 #[.val (.ref b), .val (.ref x)] [(.ref b)])) := c2.trans (by
    refine XS.pop X2.here hx rfl (hb hby d11_5) rfl rfl ?_
    refine XS.aloadN X2.here hx rfl (hb hby d11_6) rfl rfl ?_
    exact Steps.refl _)
  refine ⟨T2, (some (.ref b)), _, _, _, X2, by decide, by decide, (fun q => by cases q), N2, ?_, fun fs hr => ?_⟩
  · skip
    exact ⟨rfl, t2, kb2, M2, SB2, K2, ht2, hM2⟩
  · exact own_retR X2 hx c3 hret rfl rfl (hb hby d11_7) hr
set_option maxRecDepth 65536 in
set_option maxHeartbeats 40000000 in
theorem rmAI (l : Launch) (Z : State) (a0 : Array Value) (hw : ∀ d ∈ tables_1, d.before a0 Z = true) (b : Addr) (n : Nat) (u1 u2 : Value) (z : Int32) (fm : Value) (h0 : Heap) (O0 : Old Z Z.heap.size h0) (Eb : Exa Z h0 b "java/lang/StringBuilder") (Fc : Fld Z h0 b "java/lang/AbstractStringBuilder" "count" "I" (.int (0 : Int32))) (Fo : Fld Z h0 b "java/lang/AbstractStringBuilder" "coder" "B" u2) (Fv : Fld Z h0 b "java/lang/AbstractStringBuilder" "value" "[B" u1) (gb : Z.heap.size ≤ b) (hn : n ≤ 16) (SC : Sta Z Z.heap "java/lang/String" "COMPACT_STRINGS" "Z" (.int z)) (hz : ¬ z = 0) (SF : Sta Z Z.heap "jdk/internal/util/Preconditions" "SIOOBE_FORMATTER" "Ljava/util/function/BiFunction;" fm) (hfm : fm.isRef = true) :
    own_NC l Z (⟨"java/lang/AbstractStringBuilder", "<init>", "(I)V"⟩ : MethodName) jdk_68_method_2_code 2 none ({ frames := 1, cells := 1, slots := 16, locals := 12 } : Room) #[(.ref b), (.int (Int32.ofNat n))] h0 (fun v h => v = none ∧ ∃ (t : Addr) (kb : ClassId), own_SB Z h b t kb n [] ∧ Keep h0 h [b] ∧ h0.size ≤ t) := by
  refine own_nc (plainFor_of_name (by first | (simp [plainName, overriddenIn]; done) | decide +kernel)) ?_
  intro p e s m below meth c s₁ S0 X0 hx hby hml hret hnm hown hZ e0 cc
  have N0 := Fr.nil Z.heap.size
  have c0 : Steps p.tables e below S0 (s₁.setTop (mkF m 0 #[.val (.ref b), .val (.int (Int32.ofNat n))] [])) := cc.trans (XT.entry rfl)
  obtain ⟨T1, X1, e1, st1⟩ := initO X0 hx hZ hown (hw _ (List.mem_of_getElem? (i := 59) rfl)) (hw _ (List.mem_of_getElem? (i := 24) rfl)) (hw _ (List.mem_of_getElem? (i := 25) rfl)) e0 (g := (mkF m 1 #[.val (.ref b), .val (.int (Int32.ofNat n))] [(.ref b)])) rfl (by rw [hml]; rfl) rfl (hb hby d10_1) (by decide) (W := 0) (by show 2 * 0 + _ ≤ _; exact Nat.le_of_eq rfl) (by decide)
  obtain ⟨T2, X2, e2, st2⟩ := getS2 X1 hx hZ hown (host := "") (Or.inl (hw _ (List.mem_of_getElem? (i := 60) rfl))) Via.refl e1 (SC.ext O0.2) (g := (mkF m 4 #[.val (.ref b), .val (.int (Int32.ofNat n))] [])) rfl (hb hby d10_4)
  obtain ⟨T3, h3, k3, X3, e3, E3, A3, Ev3, st3⟩ := newPE X2 hx hZ (hw _ (List.mem_of_getElem? (i := 3) rfl)) e2 (g := (mkF m 12 #[.val (.ref b), .val (.int (Int32.ofNat n))] [(.int (Int32.ofNat n)), (.ref b)])) rfl (hb hby d10_12) rfl (own_nneg (by omega)) (cap := 16) (by rw [own_clamp (by omega)]; exact hn) (by decide) (by decide) (by decide) (ad := "[B") rfl
  obtain ⟨b3, g3⟩ : ∃ z, z = h0.size := ⟨_, rfl⟩
  rw [← g3] at A3 Ev3 st3
  have lo3 : h0.size ≤ b3 := Nat.le_of_eq g3.symm
  have ge3 : Z.heap.size ≤ b3 := Nat.le_trans O0.2.1 lo3
  have V3 := Arv.new A3 (own_nneg (by omega))
  obtain ⟨T4, h4, X4, e4, W4, st4⟩ := putF X3 hx hZ hown (host := "") (Or.inl (hw _ (List.mem_of_getElem? (i := 61) rfl))) Via.refl e3 (Fv.ext E3) (Eb.ext E3) (Or.inl (hw _ (List.mem_of_getElem? (i := 62) rfl))) (hw _ (List.mem_of_getElem? (i := 48) rfl)) (ty := (.array .byte)) (by decide) rfl rfl (g := (mkF m 14 #[.val (.ref b), .val (.int (Int32.ofNat n))] [(.ref b3), (.ref b)])) rfl rfl (hb hby d10_14)
  have N4 := Fr.snoc X4 N0 gb
  have Fw4 := (Fv.ext E3).same W4
  obtain ⟨T5, h5, X5, e5, W5, st5⟩ := putFN X4 hx hZ hown (hw _ (List.mem_of_getElem? (i := 63) rfl)) Via.refl e4 ((Fo.ext E3).other W4 (Or.inr (slot_ne (Or.inl (hw _ (List.mem_of_getElem? (i := 64) rfl))) (Or.inl (hw _ (List.mem_of_getElem? (i := 62) rfl))) (by decide) (t := .byte) (t' := (.array .byte)) (by decide) (by decide)))) ((Eb.ext E3).wr W4) (Or.inl (hw _ (List.mem_of_getElem? (i := 64) rfl))) (hw _ (List.mem_of_getElem? (i := 48) rfl)) (ty := .byte) (v' := (.int (0 : Int32))) (by decide) rfl rfl (g := (mkF m 19 #[.val (.ref b), .val (.int (Int32.ofNat n))] [(.int (0 : Int32)), (.ref b)])) rfl rfl (hb hby d10_19)
  have N5 := Fr.snoc X5 N4 gb
  have Fw5 := ((Fo.ext E3).other W4 (Or.inr (slot_ne (Or.inl (hw _ (List.mem_of_getElem? (i := 64) rfl))) (Or.inl (hw _ (List.mem_of_getElem? (i := 62) rfl))) (by decide) (t := .byte) (t' := (.array .byte)) (by decide) (by decide)))).same W5
  have c6 : Steps p.tables e below S0 (T5.setTop (mkF m 38 #[.val (.ref b), .val (.int (Int32.ofNat n))] [])) := c0.trans (by
    refine XS.aloadN X0.here hx rfl (hb hby d10_0) rfl rfl ?_
    refine st1 _ ?_
    refine st2 _ ?_
    refine XS.ifNo X2.here hx rfl (hb hby d10_7) rfl ((if0 _ _).trans (feq hz).1) ?_
    refine XS.aloadN X2.here hx rfl (hb hby d10_10) rfl rfl ?_
    refine XS.iloadN X2.here hx rfl (hb hby d10_11) rfl ?_
    refine st3 _ ?_
    show Steps p.tables e below (T3.setTop (mkF m 14 #[.val (.ref b), .val (.int (Int32.ofNat n))] [(.ref b3), (.ref b)])) _
    refine st4 _ ?_
    refine XS.aloadN X4.here hx rfl (hb hby d10_17) rfl rfl ?_
    refine XS.iconst X4.here hx rfl (hb hby d10_18) ?_
    refine st5 _ ?_
    show Steps p.tables e below (T5.setTop (mkF m 22 #[.val (.ref b), .val (.int (Int32.ofNat n))] [])) _
    refine XS.goto X5.here hx rfl (pc0 := 22) (pc' := 38) rfl (hb hby d10_22) (by decide) (by decide) ?_
    exact Steps.refl _)
  refine ⟨T5, none, _, _, _, X5, by decide, by decide, (fun _ => rfl), N5, ?_, fun fs hr => ?_⟩
  · rw [e5]
    exact ⟨rfl, b3, k3, ⟨(((Eb.ext E3).wr W4).wr W5), (((Fc.ext E3).other W4 (Or.inr (slot_ne (Or.inl (hw _ (List.mem_of_getElem? (i := 87) rfl))) (Or.inl (hw _ (List.mem_of_getElem? (i := 62) rfl))) (by decide) (t := .int) (t' := (.array .byte)) (by decide) (by decide)))).other W5 (Or.inr (slot_ne (Or.inl (hw _ (List.mem_of_getElem? (i := 87) rfl))) (Or.inl (hw _ (List.mem_of_getElem? (i := 64) rfl))) (by decide) (t := .int) (t' := .byte) (by decide) (by decide)))), Fw5, (Fw4.other W5 (Or.inr (slot_ne (Or.inl (hw _ (List.mem_of_getElem? (i := 62) rfl))) (Or.inl (hw _ (List.mem_of_getElem? (i := 64) rfl))) (by decide) (t := (.array .byte)) (t' := .byte) (by decide) (by decide)))), ((V3.other W4 (Ne.symm (Nat.ne_of_lt (Nat.lt_of_lt_of_le Eb.lt lo3)))).other W5 (Ne.symm (Nat.ne_of_lt (Nat.lt_of_lt_of_le Eb.lt lo3)))), ((Ev3.wr W4).wr W5), (Nat.zero_le _), (by omega), (Nat.ne_of_lt (Nat.lt_of_lt_of_le Eb.lt lo3)), gb, ge3⟩, ((((Keep.refl h0 [b]).ext E3).wr W4 (Or.inl (List.mem_of_getElem? (i := 0) rfl))).wr W5 (Or.inl (List.mem_of_getElem? (i := 0) rfl))), (Nat.le_trans (Keep.refl h0 []).1 lo3)⟩
  · exact c6.trans (X5.returnOut hx hret (hb hby d10_38) hr)
set_option maxRecDepth 65536 in
set_option maxHeartbeats 40000000 in
theorem rmS0 (l : Launch) (Z : State) (a0 : Array Value) (hw : ∀ d ∈ tables_1, d.before a0 Z = true) (b : Addr) (u1 u2 : Value) (z : Int32) (fm : Value) (h0 : Heap) (O0 : Old Z Z.heap.size h0) (Eb : Exa Z h0 b "java/lang/StringBuilder") (Fc : Fld Z h0 b "java/lang/AbstractStringBuilder" "count" "I" (.int (0 : Int32))) (Fo : Fld Z h0 b "java/lang/AbstractStringBuilder" "coder" "B" u2) (Fv : Fld Z h0 b "java/lang/AbstractStringBuilder" "value" "[B" u1) (gb : Z.heap.size ≤ b) (SC : Sta Z Z.heap "java/lang/String" "COMPACT_STRINGS" "Z" (.int z)) (hz : ¬ z = 0) (SF : Sta Z Z.heap "jdk/internal/util/Preconditions" "SIOOBE_FORMATTER" "Ljava/util/function/BiFunction;" fm) (hfm : fm.isRef = true) :
    own_NC l Z (⟨"java/lang/StringBuilder", "<init>", "()V"⟩ : MethodName) jdk_67_method_1_code 1 none ({ frames := 2, cells := 1, slots := 16, locals := 25 } : Room) #[(.ref b)] h0 (fun v h => v = none ∧ ∃ (t : Addr) (kb : ClassId), own_SB Z h b t kb 16 [] ∧ Keep h0 h [b] ∧ h0.size ≤ t) := by
  refine own_nc (plainFor_of_name (by first | (simp [plainName, overriddenIn]; done) | decide +kernel)) ?_
  intro p e s m below meth c s₁ S0 X0 hx hby hml hret hnm hown hZ e0 cc
  have N0 := Fr.nil Z.heap.size
  have c0 : Steps p.tables e below S0 (s₁.setTop (mkF m 0 #[.val (.ref b)] [])) := cc.trans (XT.entry rfl)
  have c1 : Steps p.tables e below S0 (s₁.setTop (mkF m 3 #[.val (.ref b)] [(.int (16 : Int32)), (.ref b)])) := c0.trans (by
    refine XS.aloadN X0.here hx rfl (hb hby d9_0) rfl rfl ?_
    refine XS.bipush X0.here hx rfl (hb hby d9_1) ?_
    exact Steps.refl _)
  obtain ⟨v2, T2, L2, X2, ⟨N2', rfl, t2, kb2, SB2, K2, lo2⟩, c2'⟩ := own_spec X0 hx hml hZ hown rfl (hw _ (List.mem_of_getElem? (i := 53) rfl)) (hw _ (List.mem_of_getElem? (i := 54) rfl)) (hw _ (List.mem_of_getElem? (i := 58) rfl)) (by decide) (kc := 1) (ks := 16) (h := h0) (W := 0) (b := b) (argsL := [(.int (16 : Int32))]) (rest := []) (own_pay (W := 0) (rmAI l Z a0 hw b 16 u1 u2 z fm h0 O0 Eb Fc Fo Fv gb (by decide) SC hz SF hfm) hZ (hw _ (List.mem_of_getElem? (i := 58) rfl)) (hw _ (List.mem_of_getElem? (i := 57) rfl)) (by decide) (by decide)) c1 (lenOf pd_8 rfl) rfl (hb hby d9_3) e0
  have N2 := Fr.app N0 N2'
  have c2 : Steps p.tables e below S0 (T2.setTop (mkF m 6 #[.val (.ref b)] [])) := c2'
  refine ⟨T2, none, _, _, _, X2, by decide, by decide, (fun _ => rfl), N2, ?_, fun fs hr => ?_⟩
  · skip
    exact ⟨rfl, t2, kb2, SB2, K2, lo2⟩
  · exact c2.trans (X2.returnOut hx hret (hb hby d9_6) hr)
set_option maxRecDepth 65536 in
set_option maxHeartbeats 40000000 in
theorem rmCORc (l : Launch) (Z : State) (a0 : Array Value) (hw : ∀ d ∈ tables_1, d.before a0 Z = true) (t : Addr) (kb : ClassId) (L : Nat) (bs : List Int32) (h0 : Heap) (O0 : Old Z Z.heap.size h0) (Vt : Arv Z h0 t kb .byte (Int32.ofNat L) (own_bv bs) (.int (0 : Int32))) (Et : Exa Z h0 t "[B") (hle : bs.length ≤ L) (hL4 : L ≤ 4000) (ho : bs.length ≤ 100) (hq : bs.length = L) :
    own_NC l Z (⟨"java/util/Arrays", "copyOfRange", "([BII)[B"⟩ : MethodName) jdk_65_method_132_code 3 (some (.array .byte)) ({ frames := 2, cells := 1, slots := 100, locals := 56 } : Room) #[(.ref t), (.int (0 : Int32)), (.int (Int32.ofNat bs.length))] h0 (fun v h => ∃ (t2 : Addr) (kb2 : ClassId), v = some (.ref t2) ∧ Keep h0 h [] ∧ h0.size ≤ t2 ∧ Arv Z h t2 kb2 .byte (Int32.ofNat bs.length) (own_bv bs) (.int (0 : Int32))) := by
  refine own_nc (plainFor_of_name (by first | (simp [plainName, overriddenIn]; done) | decide +kernel)) ?_
  intro p e s m below meth c s₁ S0 X0 hx hby hml hret hnm hown hZ e0 cc
  have N0 := Fr.nil Z.heap.size
  have c0 : Steps p.tables e below S0 (s₁.setTop (mkF m 0 #[.val (.ref t), .val (.int (0 : Int32)), .val (.int (Int32.ofNat bs.length))] [])) := cc.trans (XT.entry rfl)
  obtain ⟨cl1, Ar1, q1, S1, M1, H1, G1⟩ := id Vt
  obtain ⟨T2, h2, X2, e2, E2, V2, Ev2, st2⟩ := own_cloneV X0 hx hZ hown (hw _ (List.mem_of_getElem? (i := 171) rfl)) (hw _ (List.mem_of_getElem? (i := 172) rfl)) (hw _ (List.mem_of_getElem? (i := 176) rfl)) (hw _ (List.mem_of_getElem? (i := 174) rfl)) (hw _ (List.mem_of_getElem? (i := 175) rfl)) (hw _ (List.mem_of_getElem? (i := 177) rfl)) e0 Vt Et (g := (mkF m 18 #[.val (.ref t), .val (.int (0 : Int32)), .val (.int (Int32.ofNat bs.length))] [(.ref t)])) rfl (by rw [hml]; rfl) rfl (hb hby d31_18) (by decide) (W := 0) (cap := 100) (by show 2 * 0 + _ ≤ _; exact Nat.le_of_eq rfl) (by decide) (by rw [own_clamp (by omega)]; omega) (by decide) (by decide)
  obtain ⟨b2, g2⟩ : ∃ z, z = h0.size := ⟨_, rfl⟩
  rw [← g2] at V2 Ev2 st2
  have lo2 : h0.size ≤ b2 := Nat.le_of_eq g2.symm
  have ge2 : Z.heap.size ≤ b2 := Nat.le_trans O0.2.1 lo2
  obtain ⟨T3, X3, e3, st3⟩ := castY X2 hx hZ hown (hw _ (List.mem_of_getElem? (i := 178) rfl)) e2 (Ins.self Ev2) (g := (mkF m 21 #[.val (.ref t), .val (.int (0 : Int32)), .val (.int (Int32.ofNat bs.length))] [(.ref b2)])) rfl rfl (hb hby d31_21)
  have c4 : Steps p.tables e below S0 (T3.setTop (mkF m 24 #[.val (.ref t), .val (.int (0 : Int32)), .val (.int (Int32.ofNat bs.length))] [(.ref b2)])) := c0.trans (by
    refine XS.iloadN X0.here hx rfl (hb hby d31_0) rfl ?_
    refine XS.ifNo X0.here hx rfl (hb hby d31_1) rfl ((if0 _ _).trans (teq (by decide : (0 : Int32) = (0 : Int32))).2) ?_
    refine XS.iloadN X0.here hx rfl (hb hby d31_4) rfl ?_
    refine XS.aloadN X0.here hx rfl (hb hby d31_5) rfl rfl ?_
    refine X0.arraylength hx (by rw [show s₁.heap = h0 from e0]; exact Ar1.1) (State.isArrayOf_alike (hZ).alike Ar1.2.1) (g := (mkF m 6 #[.val (.ref t), .val (.int (0 : Int32)), .val (.int (Int32.ofNat bs.length))] [(.ref t), (.int (Int32.ofNat bs.length))])) rfl rfl (hb hby d31_6) _ ?_
    rw [len_of S1 M1]
    refine XS.icmpYes X0.here hx rfl (pc0 := 7) (pc' := 17) rfl (hb hby d31_7) rfl (teq (by rw [hq])).1 (by decide) (by decide) ?_
    refine XS.aloadN X0.here hx rfl (hb hby d31_17) rfl rfl ?_
    refine st2 _ ?_
    show Steps p.tables e below (T2.setTop (mkF m 21 #[.val (.ref t), .val (.int (0 : Int32)), .val (.int (Int32.ofNat bs.length))] [(.ref b2)])) _
    refine st3 _ ?_
    exact Steps.refl _)
  refine ⟨T3, (some (.ref b2)), _, _, _, X3, by decide, by decide, (fun q => by cases q), N0, ?_, fun fs hr => ?_⟩
  · rw [e3]
    exact ⟨b2, kb, rfl, ((Keep.refl h0 []).ext E2), (Nat.le_trans (Keep.refl h0 []).1 lo2), by rw [hq]; exact V2⟩
  · exact own_retR X3 hx c4 hret rfl rfl (hb hby d31_24) hr
set_option maxRecDepth 65536 in
set_option maxHeartbeats 40000000 in
theorem rmGV (l : Launch) (Z : State) (a0 : Array Value) (hw : ∀ d ∈ tables_1, d.before a0 Z = true) (b t : Addr) (kb : ClassId) (L : Nat) (bs : List Int32) (h0 : Heap) (O0 : Old Z Z.heap.size h0) (hsb : own_SB Z h0 b t kb L bs) :
    own_NC l Z (⟨"java/lang/AbstractStringBuilder", "getValue", "()[B"⟩ : MethodName) jdk_68_method_64_code 1 (some (.array .byte)) ({ frames := 0, cells := 0, slots := 0, locals := 0 } : Room) #[(.ref b)] h0 (fun v h => v = some (.ref t) ∧ h = h0) := by
  refine own_nc (plainFor_of_name (by first | (simp [plainName, overriddenIn]; done) | decide +kernel)) ?_
  intro p e s m below meth c s₁ S0 X0 hx hby hml hret hnm hown hZ e0 cc
  have N0 := Fr.nil Z.heap.size
  have c0 : Steps p.tables e below S0 (s₁.setTop (mkF m 0 #[.val (.ref b)] [])) := cc.trans (XT.entry rfl)
  obtain ⟨Eb, Fc, Fo, Fv, Vt, Et, hle, hL4, hbt, gb, gt⟩ := id hsb
  obtain ⟨T1, X1, e1, st1⟩ := getF X0 hx hZ hown (host := "") (Or.inl (hw _ (List.mem_of_getElem? (i := 61) rfl))) Via.refl e0 Fv (g := (mkF m 1 #[.val (.ref b)] [(.ref b)])) rfl rfl (hb hby d27_1)
  have c2 : Steps p.tables e below S0 (T1.setTop (mkF m 4 #[.val (.ref b)] [(.ref t)])) := c0.trans (by
    refine XS.aloadN X0.here hx rfl (hb hby d27_0) rfl rfl ?_
    refine st1 _ ?_
    exact Steps.refl _)
  refine ⟨T1, (some (.ref t)), _, _, _, X1, by decide, by decide, (fun q => by cases q), N0, ?_, fun fs hr => ?_⟩
  · rw [e1]
    exact ⟨rfl, rfl⟩
  · exact own_retR X1 hx c2 hret rfl rfl (hb hby d27_4) hr
set_option maxRecDepth 65536 in
set_option maxHeartbeats 40000000 in
theorem rmAL (l : Launch) (Z : State) (a0 : Array Value) (hw : ∀ d ∈ tables_1, d.before a0 Z = true) (b t : Addr) (kb : ClassId) (L : Nat) (bs : List Int32) (h0 : Heap) (O0 : Old Z Z.heap.size h0) (hsb : own_SB Z h0 b t kb L bs) :
    own_NC l Z (⟨"java/lang/AbstractStringBuilder", "length", "()I"⟩ : MethodName) jdk_68_method_6_code 1 (some .int) ({ frames := 0, cells := 0, slots := 0, locals := 0 } : Room) #[(.ref b)] h0 (fun v h => v = some (.int (Int32.ofNat bs.length)) ∧ h = h0) := by
  refine own_nc (plainFor_of_name (by first | (simp [plainName, overriddenIn]; done) | decide +kernel)) ?_
  intro p e s m below meth c s₁ S0 X0 hx hby hml hret hnm hown hZ e0 cc
  have N0 := Fr.nil Z.heap.size
  have c0 : Steps p.tables e below S0 (s₁.setTop (mkF m 0 #[.val (.ref b)] [])) := cc.trans (XT.entry rfl)
  obtain ⟨Eb, Fc, Fo, Fv, Vt, Et, hle, hL4, hbt, gb, gt⟩ := id hsb
  obtain ⟨T1, X1, e1, st1⟩ := getF X0 hx hZ hown (host := "") (Or.inl (hw _ (List.mem_of_getElem? (i := 86) rfl))) Via.refl e0 Fc (g := (mkF m 1 #[.val (.ref b)] [(.ref b)])) rfl rfl (hb hby d29_1)
  have c2 : Steps p.tables e below S0 (T1.setTop (mkF m 4 #[.val (.ref b)] [(.int (Int32.ofNat bs.length))])) := c0.trans (by
    refine XS.aloadN X0.here hx rfl (hb hby d29_0) rfl rfl ?_
    refine st1 _ ?_
    exact Steps.refl _)
  refine ⟨T1, (some (.int (Int32.ofNat bs.length))), _, _, _, X1, by decide, by decide, (fun q => by cases q), N0, ?_, fun fs hr => ?_⟩
  · rw [e1]
    exact ⟨rfl, rfl⟩
  · exact c2.trans (retI X1 hx hret (hb hby d29_4) hr)
set_option maxRecDepth 65536 in
set_option maxHeartbeats 40000000 in
theorem rmSL (l : Launch) (Z : State) (a0 : Array Value) (hw : ∀ d ∈ tables_1, d.before a0 Z = true) (b t : Addr) (kb : ClassId) (L : Nat) (bs : List Int32) (h0 : Heap) (O0 : Old Z Z.heap.size h0) (hsb : own_SB Z h0 b t kb L bs) :
    own_NC l Z (⟨"java/lang/StringBuilder", "length", "()I"⟩ : MethodName) jdk_67_method_93_code 1 (some .int) ({ frames := 1, cells := 0, slots := 0, locals := 12 } : Room) #[(.ref b)] h0 (fun v h => v = some (.int (Int32.ofNat bs.length)) ∧ h = h0) := by
  refine own_nc (plainFor_of_name (by first | (simp [plainName, overriddenIn]; done) | decide +kernel)) ?_
  intro p e s m below meth c s₁ S0 X0 hx hby hml hret hnm hown hZ e0 cc
  have N0 := Fr.nil Z.heap.size
  have c0 : Steps p.tables e below S0 (s₁.setTop (mkF m 0 #[.val (.ref b)] [])) := cc.trans (XT.entry rfl)
  obtain ⟨Eb, Fc, Fo, Fv, Vt, Et, hle, hL4, hbt, gb, gt⟩ := id hsb
  have c1 : Steps p.tables e below S0 (s₁.setTop (mkF m 1 #[.val (.ref b)] [(.ref b)])) := c0.trans (by
    refine XS.aloadN X0.here hx rfl (hb hby d28_0) rfl rfl ?_
    exact Steps.refl _)
  obtain ⟨v2, T2, L2, X2, ⟨N2', rfl, e2⟩, c2'⟩ := own_super X0 hx hml hZ hown (by decide) (hw _ (List.mem_of_getElem? (i := 161) rfl)) (own_same (y2 := (⟨"java/lang/AbstractStringBuilder", "ensureCapacityInternal", "(I)V"⟩ : MethodName)) rfl (hw _ (List.mem_of_getElem? (i := 157) rfl)) (hw _ (List.mem_of_getElem? (i := 89) rfl)) (hw _ (List.mem_of_getElem? (i := 91) rfl)) (by decide)) (hw _ (List.mem_of_getElem? (i := 157) rfl)) (hw _ (List.mem_of_getElem? (i := 73) rfl)) (hw _ (List.mem_of_getElem? (i := 162) rfl)) (kc := 0) (ks := 0) (h := h0) (W := 0) (b := b) (argsL := []) (rest := []) (own_pay (W := 0) (rmAL l Z a0 hw b t kb L bs h0 O0 hsb) hZ (hw _ (List.mem_of_getElem? (i := 162) rfl)) (hw _ (List.mem_of_getElem? (i := 57) rfl)) (by decide) (by decide)) Eb c1 (lenOf pd_7 rfl) rfl (hb hby d28_1) e0
  have N2 := Fr.app N0 N2'
  have c2 : Steps p.tables e below S0 (T2.setTop (mkF m 4 #[.val (.ref b)] [(.int (Int32.ofNat bs.length))])) := c2'
  refine ⟨T2, (some (.int (Int32.ofNat bs.length))), _, _, _, X2, by decide, by decide, (fun q => by cases q), N2, ?_, fun fs hr => ?_⟩
  · rw [e2]
    exact ⟨rfl, rfl⟩
  · exact c2.trans (retI X2 hx hret (hb hby d28_4) hr)
set_option maxRecDepth 65536 in
set_option maxHeartbeats 40000000 in
theorem rmIAV (l : Launch) (Z : State) (a0 : Array Value) (hw : ∀ d ∈ tables_1, d.before a0 Z = true) (x : Addr) (u1 u2 : Value) (b t : Addr) (kb : ClassId) (L : Nat) (bs : List Int32) (z : Int32) (fm : Value) (h0 : Heap) (O0 : Old Z Z.heap.size h0) (E : Exa Z h0 x "java/lang/String") (V : Fld Z h0 x "java/lang/String" "value" "[B" u1) (Cd : Fld Z h0 x "java/lang/String" "coder" "B" u2) (gx : Z.heap.size ≤ x) (hsb : own_SB Z h0 b t kb L bs) (n1 : x ≠ b) (n2 : x ≠ t) (ho : bs.length ≤ 100)  (hq : bs.length = L) (SC : Sta Z Z.heap "java/lang/String" "COMPACT_STRINGS" "Z" (.int z)) (hz : ¬ z = 0) (SF : Sta Z Z.heap "jdk/internal/util/Preconditions" "SIOOBE_FORMATTER" "Ljava/util/function/BiFunction;" fm) (hfm : fm.isRef = true) :
    own_NC l Z (⟨"java/lang/String", "<init>", "(Ljava/lang/AbstractStringBuilder;Ljava/lang/Void;)V"⟩ : MethodName) jdk_42_method_150_code 5 none ({ frames := 3, cells := 1, slots := 100, locals := 71 } : Room) #[(.ref x), (.ref b), .null] h0 (fun v h => v = none ∧ Keep h0 h [x] ∧ Exa Z h x "java/lang/String" ∧ Fld Z h x "java/lang/String" "coder" "B" (.int (0 : Int32)) ∧ ∃ (t2 : Addr) (kb2 : ClassId), Fld Z h x "java/lang/String" "value" "[B" (.ref t2) ∧ Arv Z h t2 kb2 .byte (Int32.ofNat bs.length) (own_bv bs) (.int (0 : Int32)) ∧ h0.size ≤ t2) := by
  refine own_nc (plainFor_of_name (by first | (simp [plainName, overriddenIn]; done) | decide +kernel)) ?_
  intro p e s m below meth c s₁ S0 X0 hx hby hml hret hnm hown hZ e0 cc
  have N0 := Fr.nil Z.heap.size
  have c0 : Steps p.tables e below S0 (s₁.setTop (mkF m 0 #[.val (.ref x), .val (.ref b), .val .null, .unset, .unset] [])) := cc.trans (XT.entry rfl)
  obtain ⟨Eb, Fc, Fo, Fv, Vt, Et, hle, hL4, hbt, gb, gt⟩ := id hsb
  obtain ⟨T1, X1, e1, st1⟩ := initO X0 hx hZ hown (hw _ (List.mem_of_getElem? (i := 23) rfl)) (hw _ (List.mem_of_getElem? (i := 24) rfl)) (hw _ (List.mem_of_getElem? (i := 25) rfl)) e0 (g := (mkF m 1 #[.val (.ref x), .val (.ref b), .val .null, .unset, .unset] [(.ref x)])) rfl (by rw [hml]; rfl) rfl (hb hby d26_1) (by decide) (W := 0) (by show 2 * 0 + _ ≤ _; exact Nat.le_of_eq rfl) (by decide)
  have c2 : Steps p.tables e below S0 (T1.setTop (mkF m 5 #[.val (.ref x), .val (.ref b), .val .null, .unset, .unset] [(.ref b)])) := c0.trans (by
    refine XS.aloadN X0.here hx rfl (hb hby d26_0) rfl rfl ?_
    refine st1 _ ?_
    refine XS.aloadN X1.here hx rfl (hb hby d26_4) rfl rfl ?_
    exact Steps.refl _)
  obtain ⟨v3, T3, L3, X3, ⟨N3', rfl, e3⟩, c3'⟩ := own_virt X1 hx hml hZ hown (hw _ (List.mem_of_getElem? (i := 150) rfl)) (hw _ (List.mem_of_getElem? (i := 151) rfl)) (hw _ (List.mem_of_getElem? (i := 153) rfl)) (hw _ (List.mem_of_getElem? (i := 152) rfl)) (hw _ (List.mem_of_getElem? (i := 153) rfl)) (by decide) (kc := 0) (ks := 0) (h := h0) (W := 0) (b := b) (argsL := []) (rest := []) (own_pay (W := 0) (rmGV l Z a0 hw b t kb L bs h0 O0 hsb) hZ (hw _ (List.mem_of_getElem? (i := 154) rfl)) (hw _ (List.mem_of_getElem? (i := 57) rfl)) (by decide) (by decide)) Eb c2 (lenOf pd_11 rfl) rfl (hb hby d26_5) e1
  have N3 := Fr.app N0 N3'
  have c3 : Steps p.tables e below S0 (T3.setTop (mkF m 8 #[.val (.ref x), .val (.ref b), .val .null, .unset, .unset] [(.ref t)])) := c3'
  have c4 : Steps p.tables e below S0 (T3.setTop (mkF m 10 #[.val (.ref x), .val (.ref b), .val .null, .val (.ref t), .unset] [(.ref b)])) := c3.trans (by
    refine XS.astoreN X3.here hx rfl (hb hby d26_8) rfl rfl (l' := #[.val (.ref x), .val (.ref b), .val .null, .val (.ref t), .unset]) rfl ?_
    refine XS.aloadN X3.here hx rfl (hb hby d26_9) rfl rfl ?_
    exact Steps.refl _)
  obtain ⟨v5, T5, L5, X5, ⟨N5', rfl, e5⟩, c5'⟩ := own_virtN X3 hx hml hZ hown (hw _ (List.mem_of_getElem? (i := 155) rfl)) (hw _ (List.mem_of_getElem? (i := 156) rfl)) (hw _ (List.mem_of_getElem? (i := 158) rfl)) (hw _ (List.mem_of_getElem? (i := 159) rfl)) (y2 := (⟨"java/lang/AbstractStringBuilder", "ensureCapacityInternal", "(I)V"⟩ : MethodName)) rfl (hw _ (List.mem_of_getElem? (i := 89) rfl)) (hw _ (List.mem_of_getElem? (i := 91) rfl)) (by decide) (kc := 0) (ks := 0) (h := h0) (W := 0) (b := b) (argsL := []) (rest := []) (own_pay (W := 0) (rmSL l Z a0 hw b t kb L bs h0 O0 hsb) hZ (hw _ (List.mem_of_getElem? (i := 160) rfl)) (hw _ (List.mem_of_getElem? (i := 49) rfl)) (by decide) (by decide)) Eb c4 (lenOf pd_7 rfl) rfl (hb hby d26_10) e3
  have N5 := Fr.app N3 N5'
  have c5 : Steps p.tables e below S0 (T5.setTop (mkF m 13 #[.val (.ref x), .val (.ref b), .val .null, .val (.ref t), .unset] [(.int (Int32.ofNat bs.length))])) := c5'
  have c6 : Steps p.tables e below S0 (T5.setTop (mkF m 16 #[.val (.ref x), .val (.ref b), .val .null, .val (.ref t), .val (.int (Int32.ofNat bs.length))] [(.ref b)])) := c5.trans (by
    refine XS.istore X5.here hx rfl (hb hby d26_13) rfl (l' := #[.val (.ref x), .val (.ref b), .val .null, .val (.ref t), .val (.int (Int32.ofNat bs.length))]) rfl ?_
    refine XS.aloadN X5.here hx rfl (hb hby d26_15) rfl rfl ?_
    exact Steps.refl _)
  obtain ⟨v7, T7, L7, X7, ⟨N7', rfl, e7⟩, c7'⟩ := own_virt X5 hx hml hZ hown (hw _ (List.mem_of_getElem? (i := 163) rfl)) (hw _ (List.mem_of_getElem? (i := 164) rfl)) (hw _ (List.mem_of_getElem? (i := 166) rfl)) (hw _ (List.mem_of_getElem? (i := 165) rfl)) (hw _ (List.mem_of_getElem? (i := 166) rfl)) (by decide) (kc := 0) (ks := 0) (h := h0) (W := 0) (b := b) (argsL := []) (rest := []) (own_pay (W := 0) (rmAIL l Z a0 hw b z fm h0 O0 Fo SC hz SF hfm) hZ (hw _ (List.mem_of_getElem? (i := 167) rfl)) (hw _ (List.mem_of_getElem? (i := 57) rfl)) (by decide) (by decide)) Eb c6 (lenOf pd_12 rfl) rfl (hb hby d26_16) e5
  have N7 := Fr.app N5 N7'
  have c7 : Steps p.tables e below S0 (T7.setTop (mkF m 19 #[.val (.ref x), .val (.ref b), .val .null, .val (.ref t), .val (.int (Int32.ofNat bs.length))] [(.int (1 : Int32))])) := c7'
  obtain ⟨T8, h8, X8, e8, W8, st8⟩ := putFN X7 hx hZ hown (hw _ (List.mem_of_getElem? (i := 28) rfl)) Via.refl e7 Cd E (Or.inr ⟨(hw _ (List.mem_of_getElem? (i := 5) rfl)), rfl, hnm⟩) (hw _ (List.mem_of_getElem? (i := 2) rfl)) (ty := .byte) (v' := (.int (0 : Int32))) (by decide) rfl rfl (g := (mkF m 24 #[.val (.ref x), .val (.ref b), .val .null, .val (.ref t), .val (.int (Int32.ofNat bs.length))] [(.int (0 : Int32)), (.ref x)])) rfl rfl (hb hby d26_24)
  have N8 := Fr.snoc X8 N7 gx
  have Fw8 := Cd.same W8
  have c9 : Steps p.tables e below S0 (T8.setTop (mkF m 32 #[.val (.ref x), .val (.ref b), .val .null, .val (.ref t), .val (.int (Int32.ofNat bs.length))] [(.int (Int32.ofNat bs.length)), (.int (0 : Int32)), (.ref t), (.ref x)])) := c7.trans (by
    refine XS.ifNo X7.here hx rfl (hb hby d26_19) rfl ((if0 _ _).trans (feq (by decide : ¬ ((1 : Int32) = (0 : Int32)))).1) ?_
    refine XS.aloadN X7.here hx rfl (hb hby d26_22) rfl rfl ?_
    refine XS.iconst X7.here hx rfl (hb hby d26_23) ?_
    refine st8 _ ?_
    show Steps p.tables e below (T8.setTop (mkF m 27 #[.val (.ref x), .val (.ref b), .val .null, .val (.ref t), .val (.int (Int32.ofNat bs.length))] [])) _
    refine XS.aloadN X8.here hx rfl (hb hby d26_27) rfl rfl ?_
    refine XS.aloadN X8.here hx rfl (hb hby d26_28) rfl rfl ?_
    refine XS.iconst X8.here hx rfl (hb hby d26_29) ?_
    refine XS.iload X8.here hx rfl (hb hby d26_30) rfl ?_
    exact Steps.refl _)
  obtain ⟨v10, T10, L10, X10, ⟨N10', t10, kb10, rfl, K10, lo10, V10⟩, c10'⟩ := own_stat X8 hx hml hZ hown (hw _ (List.mem_of_getElem? (i := 168) rfl)) (hw _ (List.mem_of_getElem? (i := 169) rfl)) (hw _ (List.mem_of_getElem? (i := 110) rfl)) (hw _ (List.mem_of_getElem? (i := 170) rfl)) (by decide) (kc := 1) (ks := 100) (h := h8) (W := 1) (argsL := [(.ref t), (.int (0 : Int32)), (.int (Int32.ofNat bs.length))]) (rest := [(.ref x)]) (own_pay (W := 1) (rmCORc l Z a0 hw t kb L bs h8 (O0.wr W8 gx) (Vt.other W8 (Ne.symm n2)) (Et.wr W8) hle hL4 ho hq ) hZ (hw _ (List.mem_of_getElem? (i := 170) rfl)) (hw _ (List.mem_of_getElem? (i := 110) rfl)) (by decide) (by decide)) c9 (lenOf pd_13 rfl) rfl (hb hby d26_32) e8
  have N10 := Fr.app N8 N10'
  have c10 : Steps p.tables e below S0 (T10.setTop (mkF m 35 #[.val (.ref x), .val (.ref b), .val .null, .val (.ref t), .val (.int (Int32.ofNat bs.length))] [(.ref t10), (.ref x)])) := c10'
  obtain ⟨T11, h11, X11, e11, W11, st11⟩ := putF X10 hx hZ hown (host := "") (Or.inl (hw _ (List.mem_of_getElem? (i := 27) rfl))) Via.refl rfl ((V.other W8 (Or.inr (slot_ne (Or.inr (hw _ (List.mem_of_getElem? (i := 4) rfl))) (Or.inr (hw _ (List.mem_of_getElem? (i := 5) rfl))) (by decide) (t := (.array .byte)) (t' := .byte) (by decide) (by decide)))).keep K10 nin0) ((E.wr W8).keep K10) (Or.inr ⟨(hw _ (List.mem_of_getElem? (i := 4) rfl)), rfl, hnm⟩) (hw _ (List.mem_of_getElem? (i := 2) rfl)) (ty := (.array .byte)) (by decide) rfl rfl (g := (mkF m 35 #[.val (.ref x), .val (.ref b), .val .null, .val (.ref t), .val (.int (Int32.ofNat bs.length))] [(.ref t10), (.ref x)])) rfl rfl (hb hby d26_35)
  have N11 := Fr.snoc X11 N10 gx
  have Fw11 := ((V.other W8 (Or.inr (slot_ne (Or.inr (hw _ (List.mem_of_getElem? (i := 4) rfl))) (Or.inr (hw _ (List.mem_of_getElem? (i := 5) rfl))) (by decide) (t := (.array .byte)) (t' := .byte) (by decide) (by decide)))).keep K10 nin0).same W11
  have c12 : Steps p.tables e below S0 (T11.setTop (mkF m 97 #[.val (.ref x), .val (.ref b), .val .null, .val (.ref t), .val (.int (Int32.ofNat bs.length))] [])) := c10.trans (by
    refine st11 _ ?_
    refine XS.goto X11.here hx rfl (pc0 := 38) (pc' := 97) rfl (hb hby d26_38) (by decide) (by decide) ?_
    exact Steps.refl _)
  refine ⟨T11, none, _, _, _, X11, by decide, by decide, (fun _ => rfl), N11, ?_, fun fs hr => ?_⟩
  · rw [e11]
    exact ⟨rfl, ((((Keep.refl h0 [x]).wr W8 (Or.inl (List.mem_of_getElem? (i := 0) rfl))).trans K10 all0).wr W11 (Or.inl (List.mem_of_getElem? (i := 0) rfl))), (((E.wr W8).keep K10).wr W11), ((Fw8.keep K10 nin0).other W11 (Or.inr (slot_ne (Or.inr (hw _ (List.mem_of_getElem? (i := 5) rfl))) (Or.inr (hw _ (List.mem_of_getElem? (i := 4) rfl))) (by decide) (t := .byte) (t' := (.array .byte)) (by decide) (by decide)))), t10, kb10, Fw11, (V10.other W11 (Ne.symm (Nat.ne_of_lt (Nat.lt_of_lt_of_le (Nat.lt_of_lt_of_le E.lt (Keep.of_wr W8).1) lo10)))), (Nat.le_trans (own_kz (Keep.refl h0 []) (Keep.of_wr W8)).1 lo10)⟩
  · exact c12.trans (X11.returnOut hx hret (hb hby d26_97) hr)
set_option maxRecDepth 65536 in
set_option maxHeartbeats 40000000 in
theorem rmISB (l : Launch) (Z : State) (a0 : Array Value) (hw : ∀ d ∈ tables_1, d.before a0 Z = true) (x : Addr) (u1 u2 : Value) (b t : Addr) (kb : ClassId) (L : Nat) (bs : List Int32) (z : Int32) (fm : Value) (h0 : Heap) (O0 : Old Z Z.heap.size h0) (E : Exa Z h0 x "java/lang/String") (V : Fld Z h0 x "java/lang/String" "value" "[B" u1) (Cd : Fld Z h0 x "java/lang/String" "coder" "B" u2) (gx : Z.heap.size ≤ x) (hsb : own_SB Z h0 b t kb L bs) (n1 : x ≠ b) (n2 : x ≠ t) (ho : bs.length ≤ 100)  (hq : bs.length = L) (SC : Sta Z Z.heap "java/lang/String" "COMPACT_STRINGS" "Z" (.int z)) (hz : ¬ z = 0) (SF : Sta Z Z.heap "jdk/internal/util/Preconditions" "SIOOBE_FORMATTER" "Ljava/util/function/BiFunction;" fm) (hfm : fm.isRef = true) :
    own_NC l Z (⟨"java/lang/String", "<init>", "(Ljava/lang/StringBuilder;)V"⟩ : MethodName) jdk_42_method_53_code 2 none ({ frames := 4, cells := 1, slots := 100, locals := 87 } : Room) #[(.ref x), (.ref b)] h0 (fun v h => v = none ∧ Keep h0 h [x] ∧ Exa Z h x "java/lang/String" ∧ Fld Z h x "java/lang/String" "coder" "B" (.int (0 : Int32)) ∧ ∃ (t2 : Addr) (kb2 : ClassId), Fld Z h x "java/lang/String" "value" "[B" (.ref t2) ∧ Arv Z h t2 kb2 .byte (Int32.ofNat bs.length) (own_bv bs) (.int (0 : Int32)) ∧ h0.size ≤ t2) := by
  refine own_nc (plainFor_of_name (by first | (simp [plainName, overriddenIn]; done) | decide +kernel)) ?_
  intro p e s m below meth c s₁ S0 X0 hx hby hml hret hnm hown hZ e0 cc
  have N0 := Fr.nil Z.heap.size
  have c0 : Steps p.tables e below S0 (s₁.setTop (mkF m 0 #[.val (.ref x), .val (.ref b)] [])) := cc.trans (XT.entry rfl)
  obtain ⟨Eb, Fc, Fo, Fv, Vt, Et, hle, hL4, hbt, gb, gt⟩ := id hsb
  have c1 : Steps p.tables e below S0 (s₁.setTop (mkF m 3 #[.val (.ref x), .val (.ref b)] [.null, (.ref b), (.ref x)])) := c0.trans (by
    refine XS.aloadN X0.here hx rfl (hb hby d25_0) rfl rfl ?_
    refine XS.aloadN X0.here hx rfl (hb hby d25_1) rfl rfl ?_
    refine XS.aconstNull X0.here hx rfl (hb hby d25_2) ?_
    exact Steps.refl _)
  obtain ⟨v2, T2, L2, X2, ⟨N2', rfl, K2, E2, Cd2, t2, kb2, V2, Kb2, lo2⟩, c2'⟩ := own_spec X0 hx hml hZ hown rfl (hw _ (List.mem_of_getElem? (i := 147) rfl)) (hw _ (List.mem_of_getElem? (i := 148) rfl)) (hw _ (List.mem_of_getElem? (i := 149) rfl)) (by decide) (kc := 1) (ks := 100) (h := h0) (W := 0) (b := x) (argsL := [(.ref b), .null]) (rest := []) (own_pay (W := 0) (rmIAV l Z a0 hw x u1 u2 b t kb L bs z fm h0 O0 E V Cd gx hsb n1 n2 ho  hq  SC hz SF hfm) hZ (hw _ (List.mem_of_getElem? (i := 149) rfl)) (hw _ (List.mem_of_getElem? (i := 1) rfl)) (by decide) (by decide)) c1 (lenOf pd_14 rfl) rfl (hb hby d25_3) e0
  have N2 := Fr.app N0 N2'
  have c2 : Steps p.tables e below S0 (T2.setTop (mkF m 6 #[.val (.ref x), .val (.ref b)] [])) := c2'
  refine ⟨T2, none, _, _, _, X2, by decide, by decide, (fun _ => rfl), N2, ?_, fun fs hr => ?_⟩
  · skip
    exact ⟨rfl, K2, E2, Cd2, t2, kb2, V2, Kb2, lo2⟩
  · exact c2.trans (X2.returnOut hx hret (hb hby d25_6) hr)
set_option maxRecDepth 65536 in
set_option maxHeartbeats 40000000 in
theorem rmTS (l : Launch) (Z : State) (a0 : Array Value) (hw : ∀ d ∈ tables_1, d.before a0 Z = true) (b t : Addr) (kb : ClassId) (L : Nat) (bs : List Int32) (z : Int32) (fm : Value) (h0 : Heap) (O0 : Old Z Z.heap.size h0) (hsb : own_SB Z h0 b t kb L bs) (ho : bs.length ≤ 100)  (hq : bs.length = L) (SC : Sta Z Z.heap "java/lang/String" "COMPACT_STRINGS" "Z" (.int z)) (hz : ¬ z = 0) (SF : Sta Z Z.heap "jdk/internal/util/Preconditions" "SIOOBE_FORMATTER" "Ljava/util/function/BiFunction;" fm) (hfm : fm.isRef = true) :
    own_NC l Z (⟨"java/lang/StringBuilder", "toString", "()Ljava/lang/String;"⟩ : MethodName) jdk_67_method_42_code 1 (some (.object "java/lang/String")) ({ frames := 5, cells := 2, slots := 104, locals := 101 } : Room) #[(.ref b)] h0 (fun v h => (∃ (x t : Addr) (kb : ClassId), v = some (.ref x) ∧ Keep h0 h [] ∧ h0.size ≤ x ∧ Exa Z h x "java/lang/String" ∧ Fld Z h x "java/lang/String" "value" "[B" (.ref t) ∧ Fld Z h x "java/lang/String" "coder" "B" (.int (0 : Int32)) ∧ Arv Z h t kb .byte (Int32.ofNat (bs : List Int32).length) (((bs : List Int32).map (fun c : Int32 => c.toInt8.toInt32)).map Value.int) (.int (0 : Int32)))) := by
  refine own_nc (plainFor_of_name (by first | (simp [plainName, overriddenIn]; done) | decide +kernel)) ?_
  intro p e s m below meth c s₁ S0 X0 hx hby hml hret hnm hown hZ e0 cc
  have N0 := Fr.nil Z.heap.size
  have c0 : Steps p.tables e below S0 (s₁.setTop (mkF m 0 #[.val (.ref b)] [])) := cc.trans (XT.entry rfl)
  obtain ⟨Eb, Fc, Fo, Fv, Vt, Et, hle, hL4, hbt, gb, gt⟩ := id hsb
  obtain ⟨T1, h1, X1, e1, E1, A1, D1, U1, st1⟩ := newO X0 hx hZ hown (hw _ (List.mem_of_getElem? (i := 143) rfl)) (hw _ (List.mem_of_getElem? (i := 2) rfl)) (hw _ (List.mem_of_getElem? (i := 1) rfl)) e0 (g := (mkF m 0 #[.val (.ref b)] [])) rfl (hb hby d24_0) (by decide) (by decide)
  obtain ⟨b1, g1⟩ : ∃ z, z = h0.size := ⟨_, rfl⟩
  rw [← g1] at A1 D1 U1 st1
  have lo1 : h0.size ≤ b1 := Nat.le_of_eq g1.symm
  have ge1 : Z.heap.size ≤ b1 := Nat.le_trans O0.2.1 lo1
  have U1 : Unt h1 b1 := U1
  have F1_value : Fld Z h1 b1 "java/lang/String" "value" "[B" .null := D1 (Or.inr (hw _ (List.mem_of_getElem? (i := 4) rfl))) (ty := (.array .byte)) (by decide)
  have F1_coder : Fld Z h1 b1 "java/lang/String" "coder" "B" (.int (0 : Int32)) := D1 (Or.inr (hw _ (List.mem_of_getElem? (i := 5) rfl))) (ty := .byte) (by decide)
  have c2 : Steps p.tables e below S0 (T1.setTop (mkF m 5 #[.val (.ref b)] [(.ref b), (.ref b1), (.ref b1)])) := c0.trans (by
    refine st1 _ ?_
    refine XS.dup X1.here hx rfl (hb hby d24_3) rfl rfl ?_
    refine XS.aloadN X1.here hx rfl (hb hby d24_4) rfl rfl ?_
    exact Steps.refl _)
  obtain ⟨v3, T3, L3, X3, ⟨N3', rfl, K3, E3, Cd3, t3, kb3, V3, Kb3, lo3⟩, c3'⟩ := own_spec X1 hx hml hZ hown rfl (hw _ (List.mem_of_getElem? (i := 144) rfl)) (hw _ (List.mem_of_getElem? (i := 145) rfl)) (hw _ (List.mem_of_getElem? (i := 146) rfl)) (by decide) (kc := 1) (ks := 100) (h := h1) (W := 1) (b := b1) (argsL := [(.ref b)]) (rest := [(.ref b1)]) (own_pay (W := 1) (rmISB l Z a0 hw b1 _ _ b t kb L bs z fm h1 (O0.ext E1) A1 F1_value F1_coder ge1 ⟨(Eb.ext E1), (Fc.ext E1), (Fo.ext E1), (Fv.ext E1), (Vt.ext E1), (Et.ext E1), hle, hL4, hbt, gb, gt⟩ (Ne.symm (Nat.ne_of_lt (Nat.lt_of_lt_of_le Eb.lt lo1))) (Ne.symm (Nat.ne_of_lt (Nat.lt_of_lt_of_le Vt.lt lo1))) ho  hq  SC hz SF hfm) hZ (hw _ (List.mem_of_getElem? (i := 146) rfl)) (hw _ (List.mem_of_getElem? (i := 1) rfl)) (by decide) (by decide)) c2 (lenOf pd_15 rfl) rfl (hb hby d24_5) e1
  have N3 := Fr.app N0 N3'
  have c3 : Steps p.tables e below S0 (T3.setTop (mkF m 8 #[.val (.ref b)] [(.ref b1)])) := c3'
  refine ⟨T3, (some (.ref b1)), _, _, _, X3, by decide, by decide, (fun q => by cases q), N3, ?_, fun fs hr => ?_⟩
  · skip
    exact ⟨b1, t3, kb3, rfl, (((Keep.refl h0 []).ext E1).trans K3 (allS (Or.inr (Nat.le_trans (Keep.refl h0 []).1 lo1)) all0)), (Nat.le_trans (Keep.refl h0 []).1 lo1), E3, V3, Cd3, Kb3⟩
  · exact own_retR X3 hx c3 hret rfl rfl (hb hby d24_8) hr
set_option maxRecDepth 65536 in
set_option maxHeartbeats 40000000 in
theorem rmThr (l : Launch) (Z : State) (a0 : Array Value) (hw : ∀ d ∈ tables_1, d.before a0 Z = true) (a mg : Addr) (uS uP : Value) (h0 : Heap) (O0 : Old Z Z.heap.size h0) (E : Exa Z h0 a "java/lang/IllegalStateException") (N : Unt h0 a) (Fc : Fld Z h0 a "java/lang/Throwable" "cause" "Ljava/lang/Throwable;" .null) (Fs : Fld Z h0 a "java/lang/Throwable" "stackTrace" "[Ljava/lang/StackTraceElement;" .null) (Fp : Fld Z h0 a "java/lang/Throwable" "suppressedExceptions" "Ljava/util/List;" .null) (Fb : Fld Z h0 a "java/lang/Throwable" "backtrace" "Ljava/lang/Object;" .null) (Fm : Fld Z h0 a "java/lang/Throwable" "detailMessage" "Ljava/lang/String;" .null) (ga : Z.heap.size ≤ a) (hl : l.stackTraces = true) (US : Sta Z Z.heap "java/lang/Throwable" "UNASSIGNED_STACK" "[Ljava/lang/StackTraceElement;" uS) (hus : uS.isRef = true) (SP : Sta Z Z.heap "java/lang/Throwable" "SUPPRESSED_SENTINEL" "Ljava/util/List;" uP) (hup : uP.isRef = true) :
    own_FC l Z (⟨"java/lang/Throwable", "<init>", "(Ljava/lang/String;)V"⟩ : MethodName) jdk_78_method_2_code 2 none ({ frames := 3, cells := 1, slots := 2752, locals := 42 } : Room) #[(.ref a), (.ref mg)] h0 (fun v h => v = none ∧ Keep h0 h [a] ∧ Exa Z h a "java/lang/IllegalStateException" ∧ Unt h a ∧ Fld Z h a "java/lang/Throwable" "detailMessage" "Ljava/lang/String;" (.ref mg) ∧ Fld Z h a "java/lang/Throwable" "cause" "Ljava/lang/Throwable;" (.ref a)) := by
  refine own_fc (plainFor_of_name (by first | (simp [plainName, overriddenIn]; done) | decide +kernel)) ?_
  intro p e s m below meth c s₁ S0 X0 hx hby hml hret hnm hown hZ e0 hh0 hTK hBe cc
  have N0 := Fr.nil Z.heap.size
  have c0 : Steps p.tables e below S0 (s₁.setTop (mkF m 0 #[.val (.ref a), .val (.ref mg)] [])) := cc.trans (XT.entry rfl)
  obtain ⟨T1, X1, e1, st1⟩ := initO X0 hx hZ hown (hw _ (List.mem_of_getElem? (i := 201) rfl)) (hw _ (List.mem_of_getElem? (i := 24) rfl)) (hw _ (List.mem_of_getElem? (i := 25) rfl)) e0 (g := (mkF m 1 #[.val (.ref a), .val (.ref mg)] [(.ref a)])) rfl (by rw [hml]; rfl) rfl (hb hby d35_1) (by decide) (W := 0) (by show 2 * 0 + _ ≤ _; exact Nat.le_of_eq rfl) (by decide)
  obtain ⟨T2, h2, X2, e2, W2, st2⟩ := putF X1 hx hZ hown (host := "") (Or.inl (hw _ (List.mem_of_getElem? (i := 202) rfl))) Via.refl e1 Fc E (Or.inl (hw _ (List.mem_of_getElem? (i := 203) rfl))) (hw _ (List.mem_of_getElem? (i := 45) rfl)) (ty := (.object "java/lang/Throwable")) (by decide) rfl rfl (g := (mkF m 6 #[.val (.ref a), .val (.ref mg)] [(.ref a), (.ref a)])) rfl rfl (hb hby d35_6)
  have N2 := Fr.snoc X2 N0 ga
  have Fw2 := Fc.same W2
  obtain ⟨T3, X3, e3, st3⟩ := getS2 X2 hx hZ hown (host := "") (Or.inl (hw _ (List.mem_of_getElem? (i := 204) rfl))) Via.refl e2 (US.ext (O0.wr W2 ga).2) (g := (mkF m 10 #[.val (.ref a), .val (.ref mg)] [(.ref a)])) rfl (hb hby d35_10)
  obtain ⟨T4, h4, X4, e4, W4, st4⟩ := putF X3 hx hZ hown (host := "") (Or.inl (hw _ (List.mem_of_getElem? (i := 205) rfl))) Via.refl e3 (Fs.other W2 (Or.inr (slot_ne (Or.inl (hw _ (List.mem_of_getElem? (i := 206) rfl))) (Or.inl (hw _ (List.mem_of_getElem? (i := 203) rfl))) (by decide) (t := (.array (.object "java/lang/StackTraceElement"))) (t' := (.object "java/lang/Throwable")) (by decide) (by decide)))) (E.wr W2) (Or.inl (hw _ (List.mem_of_getElem? (i := 206) rfl))) (hw _ (List.mem_of_getElem? (i := 45) rfl)) (ty := (.array (.object "java/lang/StackTraceElement"))) (by decide) (own_nrR hus) (own_ftR hus rfl) (g := (mkF m 13 #[.val (.ref a), .val (.ref mg)] [uS, (.ref a)])) rfl rfl (hb hby d35_13)
  have N4 := Fr.snoc X4 N2 ga
  have Fw4 := (Fs.other W2 (Or.inr (slot_ne (Or.inl (hw _ (List.mem_of_getElem? (i := 206) rfl))) (Or.inl (hw _ (List.mem_of_getElem? (i := 203) rfl))) (by decide) (t := (.array (.object "java/lang/StackTraceElement"))) (t' := (.object "java/lang/Throwable")) (by decide) (by decide)))).same W4
  obtain ⟨T5, X5, e5, st5⟩ := getS2 X4 hx hZ hown (host := "") (Or.inl (hw _ (List.mem_of_getElem? (i := 207) rfl))) Via.refl e4 (SP.ext ((O0.wr W2 ga).wr W4 ga).2) (g := (mkF m 17 #[.val (.ref a), .val (.ref mg)] [(.ref a)])) rfl (hb hby d35_17)
  obtain ⟨T6, h6, X6, e6, W6, st6⟩ := putF X5 hx hZ hown (host := "") (Or.inl (hw _ (List.mem_of_getElem? (i := 208) rfl))) Via.refl e5 ((Fp.other W2 (Or.inr (slot_ne (Or.inl (hw _ (List.mem_of_getElem? (i := 209) rfl))) (Or.inl (hw _ (List.mem_of_getElem? (i := 203) rfl))) (by decide) (t := (.object "java/util/List")) (t' := (.object "java/lang/Throwable")) (by decide) (by decide)))).other W4 (Or.inr (slot_ne (Or.inl (hw _ (List.mem_of_getElem? (i := 209) rfl))) (Or.inl (hw _ (List.mem_of_getElem? (i := 206) rfl))) (by decide) (t := (.object "java/util/List")) (t' := (.array (.object "java/lang/StackTraceElement"))) (by decide) (by decide)))) ((E.wr W2).wr W4) (Or.inl (hw _ (List.mem_of_getElem? (i := 209) rfl))) (hw _ (List.mem_of_getElem? (i := 45) rfl)) (ty := (.object "java/util/List")) (by decide) (own_nrR hup) (own_ftR hup rfl) (g := (mkF m 20 #[.val (.ref a), .val (.ref mg)] [uP, (.ref a)])) rfl rfl (hb hby d35_20)
  have N6 := Fr.snoc X6 N4 ga
  have Fw6 := ((Fp.other W2 (Or.inr (slot_ne (Or.inl (hw _ (List.mem_of_getElem? (i := 209) rfl))) (Or.inl (hw _ (List.mem_of_getElem? (i := 203) rfl))) (by decide) (t := (.object "java/util/List")) (t' := (.object "java/lang/Throwable")) (by decide) (by decide)))).other W4 (Or.inr (slot_ne (Or.inl (hw _ (List.mem_of_getElem? (i := 209) rfl))) (Or.inl (hw _ (List.mem_of_getElem? (i := 206) rfl))) (by decide) (t := (.object "java/util/List")) (t' := (.array (.object "java/lang/StackTraceElement"))) (by decide) (by decide)))).same W6
  have c7 : Steps p.tables e below S0 (T6.setTop (mkF m 24 #[.val (.ref a), .val (.ref mg)] [(.ref a)])) := c0.trans (by
    refine XS.aloadN X0.here hx rfl (hb hby d35_0) rfl rfl ?_
    refine st1 _ ?_
    refine XS.aloadN X1.here hx rfl (hb hby d35_4) rfl rfl ?_
    refine XS.aloadN X1.here hx rfl (hb hby d35_5) rfl rfl ?_
    refine st2 _ ?_
    show Steps p.tables e below (T2.setTop (mkF m 9 #[.val (.ref a), .val (.ref mg)] [])) _
    refine XS.aloadN X2.here hx rfl (hb hby d35_9) rfl rfl ?_
    refine st3 _ ?_
    refine st4 _ ?_
    refine XS.aloadN X4.here hx rfl (hb hby d35_16) rfl rfl ?_
    refine st5 _ ?_
    show Steps p.tables e below (T5.setTop (mkF m 20 #[.val (.ref a), .val (.ref mg)] [uP, (.ref a)])) _
    refine st6 _ ?_
    refine XS.aloadN X6.here hx rfl (hb hby d35_23) rfl rfl ?_
    exact Steps.refl _)
  have hT0 : ThS Z s.heap := by rw [hh0]; exact ThS.ext O0.2 ThS.start
  obtain ⟨Tq, Lq, Xq, bq, Eq, Cq, Mq, cq⟩ := own_fill (rc := "java/lang/IllegalStateException") X6 hx hl hZ hown (fun d hd => hw d (own_exH d hd)) hT0 hTK hBe e6 (hw _ (List.mem_of_getElem? (i := 45) rfl)) (((E.wr W2).wr W4).wr W6) (Unt.wr W6 (Unt.wr W4 (Unt.wr W2 N))) (((Fb.other W2 (Or.inr (slot_ne (Or.inl (hw _ (List.mem_of_getElem? (i := 234) rfl))) (Or.inl (hw _ (List.mem_of_getElem? (i := 203) rfl))) (by decide) (t := (.object "java/lang/Object")) (t' := (.object "java/lang/Throwable")) (by decide) (by decide)))).other W4 (Or.inr (slot_ne (Or.inl (hw _ (List.mem_of_getElem? (i := 234) rfl))) (Or.inl (hw _ (List.mem_of_getElem? (i := 206) rfl))) (by decide) (t := (.object "java/lang/Object")) (t' := (.array (.object "java/lang/StackTraceElement"))) (by decide) (by decide)))).other W6 (Or.inr (slot_ne (Or.inl (hw _ (List.mem_of_getElem? (i := 234) rfl))) (Or.inl (hw _ (List.mem_of_getElem? (i := 209) rfl))) (by decide) (t := (.object "java/lang/Object")) (t' := (.object "java/util/List")) (by decide) (by decide)))) hus (US.ext (((O0.wr W2 ga).wr W4 ga).wr W6 ga).2) (Fw4.other W6 (Or.inr (slot_ne (Or.inl (hw _ (List.mem_of_getElem? (i := 206) rfl))) (Or.inl (hw _ (List.mem_of_getElem? (i := 209) rfl))) (by decide) (t := (.array (.object "java/lang/StackTraceElement"))) (t' := (.object "java/util/List")) (by decide) (by decide)))) ((Fw2.other W4 (Or.inr (slot_ne (Or.inl (hw _ (List.mem_of_getElem? (i := 203) rfl))) (Or.inl (hw _ (List.mem_of_getElem? (i := 206) rfl))) (by decide) (t := (.object "java/lang/Throwable")) (t' := (.array (.object "java/lang/StackTraceElement"))) (by decide) (by decide)))).other W6 (Or.inr (slot_ne (Or.inl (hw _ (List.mem_of_getElem? (i := 203) rfl))) (Or.inl (hw _ (List.mem_of_getElem? (i := 209) rfl))) (by decide) (t := (.object "java/lang/Throwable")) (t' := (.object "java/util/List")) (by decide) (by decide)))) (((Fm.other W2 (Or.inr (slot_ne (Or.inl (hw _ (List.mem_of_getElem? (i := 233) rfl))) (Or.inl (hw _ (List.mem_of_getElem? (i := 203) rfl))) (by decide) (t := (.object "java/lang/String")) (t' := (.object "java/lang/Throwable")) (by decide) (by decide)))).other W4 (Or.inr (slot_ne (Or.inl (hw _ (List.mem_of_getElem? (i := 233) rfl))) (Or.inl (hw _ (List.mem_of_getElem? (i := 206) rfl))) (by decide) (t := (.object "java/lang/String")) (t' := (.array (.object "java/lang/StackTraceElement"))) (by decide) (by decide)))).other W6 (Or.inr (slot_ne (Or.inl (hw _ (List.mem_of_getElem? (i := 233) rfl))) (Or.inl (hw _ (List.mem_of_getElem? (i := 209) rfl))) (by decide) (t := (.object "java/lang/String")) (t' := (.object "java/util/List")) (by decide) (by decide)))) (g := (mkF m 24 #[.val (.ref a), .val (.ref mg)] [(.ref a)])) rfl (by rw [hml]; rfl) (rest := []) rfl (hb hby d35_24) (by decide) (W := 0) (by show 2 * 0 + _ ≤ _; exact Nat.le_of_eq rfl) (by decide) (by decide) (by decide) c7
  obtain ⟨KT, UT⟩ := own_keepS Xq (own_bA (own_bS (own_bS (own_bS own_b0))) bq) hh0
  have NT := Fr.app N6 (fun y hy => by rw [bq y hy]; exact ga : Fr Z.heap.size Lq)
  have cq0 : Steps p.tables e below S0 (Tq.setTop (mkF m 27 #[.val (.ref a), .val (.ref mg)] [(.ref a)])) := cq
  obtain ⟨T8, h8, X8, e8, W8, st8⟩ := putF Xq hx hZ hown (host := "") (Or.inl (hw _ (List.mem_of_getElem? (i := 237) rfl))) Via.refl rfl Mq Eq (Or.inl (hw _ (List.mem_of_getElem? (i := 233) rfl))) (hw _ (List.mem_of_getElem? (i := 45) rfl)) (ty := (.object "java/lang/String")) (by decide) rfl rfl (g := (mkF m 30 #[.val (.ref a), .val (.ref mg)] [(.ref mg), (.ref a)])) rfl rfl (hb hby d35_30)
  have N8 := Fr.snoc X8 NT ga
  have Fw8 := Mq.same W8
  have c9 : Steps p.tables e below S0 (T8.setTop (mkF m 33 #[.val (.ref a), .val (.ref mg)] [])) := cq0.trans (by
    refine XS.pop Xq.here hx rfl (hb hby d35_27) rfl rfl ?_
    refine XS.aloadN Xq.here hx rfl (hb hby d35_28) rfl rfl ?_
    refine XS.aloadN Xq.here hx rfl (hb hby d35_29) rfl rfl ?_
    refine st8 _ ?_
    show Steps p.tables e below (T8.setTop (mkF m 33 #[.val (.ref a), .val (.ref mg)] [])) _
    exact Steps.refl _)
  refine ⟨T8, none, _, _, _, X8, by decide, by decide, (fun _ => rfl), N8, ?_, fun fs hr => ?_⟩
  · rw [e8]
    exact ⟨rfl, (((Keep.refl h0 [a]).trans KT (allS (Or.inl (List.mem_of_getElem? (i := 0) rfl)) all0)).wr W8 (Or.inl (List.mem_of_getElem? (i := 0) rfl))), (Eq.wr W8), (Unt.wr W8 (UT N)), Fw8, (Cq.other W8 (Or.inr (slot_ne (Or.inl (hw _ (List.mem_of_getElem? (i := 203) rfl))) (Or.inl (hw _ (List.mem_of_getElem? (i := 233) rfl))) (by decide) (t := (.object "java/lang/Throwable")) (t' := (.object "java/lang/String")) (by decide) (by decide))))⟩
  · exact c9.trans (X8.returnOut hx hret (hb hby d35_33) hr)
set_option maxRecDepth 65536 in
set_option maxHeartbeats 40000000 in
theorem rmExc (l : Launch) (Z : State) (a0 : Array Value) (hw : ∀ d ∈ tables_1, d.before a0 Z = true) (a mg : Addr) (uS uP : Value) (h0 : Heap) (O0 : Old Z Z.heap.size h0) (E : Exa Z h0 a "java/lang/IllegalStateException") (N : Unt h0 a) (Fc : Fld Z h0 a "java/lang/Throwable" "cause" "Ljava/lang/Throwable;" .null) (Fs : Fld Z h0 a "java/lang/Throwable" "stackTrace" "[Ljava/lang/StackTraceElement;" .null) (Fp : Fld Z h0 a "java/lang/Throwable" "suppressedExceptions" "Ljava/util/List;" .null) (Fb : Fld Z h0 a "java/lang/Throwable" "backtrace" "Ljava/lang/Object;" .null) (Fm : Fld Z h0 a "java/lang/Throwable" "detailMessage" "Ljava/lang/String;" .null) (ga : Z.heap.size ≤ a) (hl : l.stackTraces = true) (US : Sta Z Z.heap "java/lang/Throwable" "UNASSIGNED_STACK" "[Ljava/lang/StackTraceElement;" uS) (hus : uS.isRef = true) (SP : Sta Z Z.heap "java/lang/Throwable" "SUPPRESSED_SENTINEL" "Ljava/util/List;" uP) (hup : uP.isRef = true) :
    own_FC l Z (⟨"java/lang/Exception", "<init>", "(Ljava/lang/String;)V"⟩ : MethodName) jdk_59_method_2_code 2 none ({ frames := 4, cells := 1, slots := 2752, locals := 55 } : Room) #[(.ref a), (.ref mg)] h0 (fun v h => v = none ∧ Keep h0 h [a] ∧ Exa Z h a "java/lang/IllegalStateException" ∧ Unt h a ∧ Fld Z h a "java/lang/Throwable" "detailMessage" "Ljava/lang/String;" (.ref mg) ∧ Fld Z h a "java/lang/Throwable" "cause" "Ljava/lang/Throwable;" (.ref a)) := by
  refine own_fc (plainFor_of_name (by first | (simp [plainName, overriddenIn]; done) | decide +kernel)) ?_
  intro p e s m below meth c s₁ S0 X0 hx hby hml hret hnm hown hZ e0 hh0 hTK hBe cc
  have N0 := Fr.nil Z.heap.size
  have c0 : Steps p.tables e below S0 (s₁.setTop (mkF m 0 #[.val (.ref a), .val (.ref mg)] [])) := cc.trans (XT.entry rfl)
  have c1 : Steps p.tables e below S0 (s₁.setTop (mkF m 2 #[.val (.ref a), .val (.ref mg)] [(.ref mg), (.ref a)])) := c0.trans (by
    refine XS.aloadN X0.here hx rfl (hb hby d34_0) rfl rfl ?_
    refine XS.aloadN X0.here hx rfl (hb hby d34_1) rfl rfl ?_
    exact Steps.refl _)
  obtain ⟨v2, T2, L2, X2, ⟨N2', rfl, K2, E2, U2, M2, C2⟩, c2'⟩ := own_spec X0 hx hml hZ hown rfl (hw _ (List.mem_of_getElem? (i := 195) rfl)) (hw _ (List.mem_of_getElem? (i := 196) rfl)) (hw _ (List.mem_of_getElem? (i := 200) rfl)) (by decide) (kc := 1) (ks := 2752) (h := h0) (W := 0) (b := a) (argsL := [(.ref mg)]) (rest := []) (own_fpay (W := 0) (rmThr l Z a0 hw a mg uS uP h0 O0 E N Fc Fs Fp Fb Fm ga hl US hus SP hup) hZ (hw _ (List.mem_of_getElem? (i := 200) rfl)) (hw _ (List.mem_of_getElem? (i := 199) rfl)) (by decide) (by decide) hTK hBe) c1 (lenOf pd_5 rfl) rfl (hb hby d34_2) e0
  have N2 := Fr.app N0 N2'
  have c2 : Steps p.tables e below S0 (T2.setTop (mkF m 5 #[.val (.ref a), .val (.ref mg)] [])) := c2'
  refine ⟨T2, none, _, _, _, X2, by decide, by decide, (fun _ => rfl), N2, ?_, fun fs hr => ?_⟩
  · skip
    exact ⟨rfl, K2, E2, U2, M2, C2⟩
  · exact c2.trans (X2.returnOut hx hret (hb hby d34_5) hr)
set_option maxRecDepth 65536 in
set_option maxHeartbeats 40000000 in
theorem rmRte (l : Launch) (Z : State) (a0 : Array Value) (hw : ∀ d ∈ tables_1, d.before a0 Z = true) (a mg : Addr) (uS uP : Value) (h0 : Heap) (O0 : Old Z Z.heap.size h0) (E : Exa Z h0 a "java/lang/IllegalStateException") (N : Unt h0 a) (Fc : Fld Z h0 a "java/lang/Throwable" "cause" "Ljava/lang/Throwable;" .null) (Fs : Fld Z h0 a "java/lang/Throwable" "stackTrace" "[Ljava/lang/StackTraceElement;" .null) (Fp : Fld Z h0 a "java/lang/Throwable" "suppressedExceptions" "Ljava/util/List;" .null) (Fb : Fld Z h0 a "java/lang/Throwable" "backtrace" "Ljava/lang/Object;" .null) (Fm : Fld Z h0 a "java/lang/Throwable" "detailMessage" "Ljava/lang/String;" .null) (ga : Z.heap.size ≤ a) (hl : l.stackTraces = true) (US : Sta Z Z.heap "java/lang/Throwable" "UNASSIGNED_STACK" "[Ljava/lang/StackTraceElement;" uS) (hus : uS.isRef = true) (SP : Sta Z Z.heap "java/lang/Throwable" "SUPPRESSED_SENTINEL" "Ljava/util/List;" uP) (hup : uP.isRef = true) :
    own_FC l Z (⟨"java/lang/RuntimeException", "<init>", "(Ljava/lang/String;)V"⟩ : MethodName) jdk_58_method_2_code 2 none ({ frames := 5, cells := 1, slots := 2752, locals := 68 } : Room) #[(.ref a), (.ref mg)] h0 (fun v h => v = none ∧ Keep h0 h [a] ∧ Exa Z h a "java/lang/IllegalStateException" ∧ Unt h a ∧ Fld Z h a "java/lang/Throwable" "detailMessage" "Ljava/lang/String;" (.ref mg) ∧ Fld Z h a "java/lang/Throwable" "cause" "Ljava/lang/Throwable;" (.ref a)) := by
  refine own_fc (plainFor_of_name (by first | (simp [plainName, overriddenIn]; done) | decide +kernel)) ?_
  intro p e s m below meth c s₁ S0 X0 hx hby hml hret hnm hown hZ e0 hh0 hTK hBe cc
  have N0 := Fr.nil Z.heap.size
  have c0 : Steps p.tables e below S0 (s₁.setTop (mkF m 0 #[.val (.ref a), .val (.ref mg)] [])) := cc.trans (XT.entry rfl)
  have c1 : Steps p.tables e below S0 (s₁.setTop (mkF m 2 #[.val (.ref a), .val (.ref mg)] [(.ref mg), (.ref a)])) := c0.trans (by
    refine XS.aloadN X0.here hx rfl (hb hby d33_0) rfl rfl ?_
    refine XS.aloadN X0.here hx rfl (hb hby d33_1) rfl rfl ?_
    exact Steps.refl _)
  obtain ⟨v2, T2, L2, X2, ⟨N2', rfl, K2, E2, U2, M2, C2⟩, c2'⟩ := own_spec X0 hx hml hZ hown rfl (hw _ (List.mem_of_getElem? (i := 189) rfl)) (hw _ (List.mem_of_getElem? (i := 190) rfl)) (hw _ (List.mem_of_getElem? (i := 194) rfl)) (by decide) (kc := 1) (ks := 2752) (h := h0) (W := 0) (b := a) (argsL := [(.ref mg)]) (rest := []) (own_fpay (W := 0) (rmExc l Z a0 hw a mg uS uP h0 O0 E N Fc Fs Fp Fb Fm ga hl US hus SP hup) hZ (hw _ (List.mem_of_getElem? (i := 194) rfl)) (hw _ (List.mem_of_getElem? (i := 193) rfl)) (by decide) (by decide) hTK hBe) c1 (lenOf pd_5 rfl) rfl (hb hby d33_2) e0
  have N2 := Fr.app N0 N2'
  have c2 : Steps p.tables e below S0 (T2.setTop (mkF m 5 #[.val (.ref a), .val (.ref mg)] [])) := c2'
  refine ⟨T2, none, _, _, _, X2, by decide, by decide, (fun _ => rfl), N2, ?_, fun fs hr => ?_⟩
  · skip
    exact ⟨rfl, K2, E2, U2, M2, C2⟩
  · exact c2.trans (X2.returnOut hx hret (hb hby d33_5) hr)
set_option maxRecDepth 65536 in
set_option maxHeartbeats 40000000 in
theorem rmIse (l : Launch) (Z : State) (a0 : Array Value) (hw : ∀ d ∈ tables_1, d.before a0 Z = true) (a mg : Addr) (uS uP : Value) (h0 : Heap) (O0 : Old Z Z.heap.size h0) (E : Exa Z h0 a "java/lang/IllegalStateException") (N : Unt h0 a) (Fc : Fld Z h0 a "java/lang/Throwable" "cause" "Ljava/lang/Throwable;" .null) (Fs : Fld Z h0 a "java/lang/Throwable" "stackTrace" "[Ljava/lang/StackTraceElement;" .null) (Fp : Fld Z h0 a "java/lang/Throwable" "suppressedExceptions" "Ljava/util/List;" .null) (Fb : Fld Z h0 a "java/lang/Throwable" "backtrace" "Ljava/lang/Object;" .null) (Fm : Fld Z h0 a "java/lang/Throwable" "detailMessage" "Ljava/lang/String;" .null) (ga : Z.heap.size ≤ a) (hl : l.stackTraces = true) (US : Sta Z Z.heap "java/lang/Throwable" "UNASSIGNED_STACK" "[Ljava/lang/StackTraceElement;" uS) (hus : uS.isRef = true) (SP : Sta Z Z.heap "java/lang/Throwable" "SUPPRESSED_SENTINEL" "Ljava/util/List;" uP) (hup : uP.isRef = true) :
    own_FC l Z (⟨"java/lang/IllegalStateException", "<init>", "(Ljava/lang/String;)V"⟩ : MethodName) jdk_60_method_2_code 2 none ({ frames := 6, cells := 1, slots := 2752, locals := 81 } : Room) #[(.ref a), (.ref mg)] h0 (fun v h => v = none ∧ Keep h0 h [a] ∧ Exa Z h a "java/lang/IllegalStateException" ∧ Unt h a ∧ Fld Z h a "java/lang/Throwable" "detailMessage" "Ljava/lang/String;" (.ref mg) ∧ Fld Z h a "java/lang/Throwable" "cause" "Ljava/lang/Throwable;" (.ref a)) := by
  refine own_fc (plainFor_of_name (by first | (simp [plainName, overriddenIn]; done) | decide +kernel)) ?_
  intro p e s m below meth c s₁ S0 X0 hx hby hml hret hnm hown hZ e0 hh0 hTK hBe cc
  have N0 := Fr.nil Z.heap.size
  have c0 : Steps p.tables e below S0 (s₁.setTop (mkF m 0 #[.val (.ref a), .val (.ref mg)] [])) := cc.trans (XT.entry rfl)
  have c1 : Steps p.tables e below S0 (s₁.setTop (mkF m 2 #[.val (.ref a), .val (.ref mg)] [(.ref mg), (.ref a)])) := c0.trans (by
    refine XS.aloadN X0.here hx rfl (hb hby d32_0) rfl rfl ?_
    refine XS.aloadN X0.here hx rfl (hb hby d32_1) rfl rfl ?_
    exact Steps.refl _)
  obtain ⟨v2, T2, L2, X2, ⟨N2', rfl, K2, E2, U2, M2, C2⟩, c2'⟩ := own_spec X0 hx hml hZ hown rfl (hw _ (List.mem_of_getElem? (i := 183) rfl)) (hw _ (List.mem_of_getElem? (i := 184) rfl)) (hw _ (List.mem_of_getElem? (i := 188) rfl)) (by decide) (kc := 1) (ks := 2752) (h := h0) (W := 0) (b := a) (argsL := [(.ref mg)]) (rest := []) (own_fpay (W := 0) (rmRte l Z a0 hw a mg uS uP h0 O0 E N Fc Fs Fp Fb Fm ga hl US hus SP hup) hZ (hw _ (List.mem_of_getElem? (i := 188) rfl)) (hw _ (List.mem_of_getElem? (i := 187) rfl)) (by decide) (by decide) hTK hBe) c1 (lenOf pd_5 rfl) rfl (hb hby d32_2) e0
  have N2 := Fr.app N0 N2'
  have c2 : Steps p.tables e below S0 (T2.setTop (mkF m 5 #[.val (.ref a), .val (.ref mg)] [])) := c2'
  refine ⟨T2, none, _, _, _, X2, by decide, by decide, (fun _ => rfl), N2, ?_, fun fs hr => ?_⟩
  · skip
    exact ⟨rfl, K2, E2, U2, M2, C2⟩
  · exact c2.trans (X2.returnOut hx hret (hb hby d32_5) hr)
set_option maxRecDepth 65536 in
set_option maxHeartbeats 40000000 in
theorem rmGM (l : Launch) (Z : State) (a0 : Array Value) (hw : ∀ d ∈ tables_1, d.before a0 Z = true) (a mg : Addr) (h0 : Heap) (O0 : Old Z Z.heap.size h0) (Fm : Fld Z h0 a "java/lang/Throwable" "detailMessage" "Ljava/lang/String;" (.ref mg)) :
    own_NC l Z (⟨"java/lang/Throwable", "getMessage", "()Ljava/lang/String;"⟩ : MethodName) jdk_78_method_6_code 1 (some (.object "java/lang/String")) ({ frames := 0, cells := 0, slots := 0, locals := 0 } : Room) #[(.ref a)] h0 (fun v h => v = some (.ref mg) ∧ h = h0) := by
  refine own_nc (plainFor_of_name (by first | (simp [plainName, overriddenIn]; done) | decide +kernel)) ?_
  intro p e s m below meth c s₁ S0 X0 hx hby hml hret hnm hown hZ e0 cc
  have N0 := Fr.nil Z.heap.size
  have c0 : Steps p.tables e below S0 (s₁.setTop (mkF m 0 #[.val (.ref a)] [])) := cc.trans (XT.entry rfl)
  obtain ⟨T1, X1, e1, st1⟩ := getF X0 hx hZ hown (host := "") (Or.inl (hw _ (List.mem_of_getElem? (i := 237) rfl))) Via.refl e0 Fm (g := (mkF m 1 #[.val (.ref a)] [(.ref a)])) rfl rfl (hb hby d37_1)
  have c2 : Steps p.tables e below S0 (T1.setTop (mkF m 4 #[.val (.ref a)] [(.ref mg)])) := c0.trans (by
    refine XS.aloadN X0.here hx rfl (hb hby d37_0) rfl rfl ?_
    refine st1 _ ?_
    exact Steps.refl _)
  refine ⟨T1, (some (.ref mg)), _, _, _, X1, by decide, by decide, (fun q => by cases q), N0, ?_, fun fs hr => ?_⟩
  · rw [e1]
    exact ⟨rfl, rfl⟩
  · exact own_retR X1 hx c2 hret rfl rfl (hb hby d37_4) hr
set_option maxRecDepth 65536 in
set_option maxHeartbeats 40000000 in
theorem rmAsk (l : Launch) (Z : State) (a0 : Array Value) (hw : ∀ d ∈ tables_1, d.before a0 Z = true) (hEL : EW Z a0 EL) (cn ck : List Int32) (xn tn xk tk : Addr) (bn bk : ClassId) (z : Int32) (fm uS uP : Value) (h0 : Heap) (O0 : Old Z Z.heap.size h0) (En : Exa Z h0 xn "java/lang/String") (Vn : Fld Z h0 xn "java/lang/String" "value" "[B" (.ref tn)) (Cdn : Fld Z h0 xn "java/lang/String" "coder" "B" (.int (0 : Int32))) (Kn : Arv Z h0 tn bn .byte (Int32.ofNat (cn : List Int32).length) (((cn : List Int32).map (fun c : Int32 => c.toInt8.toInt32)).map Value.int) (.int (0 : Int32))) (Ek : Exa Z h0 xk "java/lang/String") (Vk : Fld Z h0 xk "java/lang/String" "value" "[B" (.ref tk)) (Cdk : Fld Z h0 xk "java/lang/String" "coder" "B" (.int (0 : Int32))) (Kk : Arv Z h0 tk bk .byte (Int32.ofNat (ck : List Int32).length) (((ck : List Int32).map (fun c : Int32 => c.toInt8.toInt32)).map Value.int) (.int (0 : Int32))) (ln : cn.length ≤ 3) (lk : ck.length ≤ 3) (hBn : ∀ c ∈ cn, own_B c) (hBk : ∀ c ∈ ck, own_B c) (hl : l.stackTraces = true) (US : Sta Z Z.heap "java/lang/Throwable" "UNASSIGNED_STACK" "[Ljava/lang/StackTraceElement;" uS) (hus : uS.isRef = true) (SP : Sta Z Z.heap "java/lang/Throwable" "SUPPRESSED_SENTINEL" "Ljava/util/List;" uP) (hup : uP.isRef = true) (SC : Sta Z Z.heap "java/lang/String" "COMPACT_STRINGS" "Z" (.int z)) (hz : ¬ z = 0) (SF : Sta Z Z.heap "jdk/internal/util/Preconditions" "SIOOBE_FORMATTER" "Ljava/util/function/BiFunction;" fm) (hfm : fm.isRef = true) :
    own_KC l Z EL (⟨"com/example/breakwater/breakwater/InFlightLoads", "askedForOwnKey", "(Ljava/lang/String;Ljava/lang/String;)Ljava/lang/IllegalStateException;"⟩ : MethodName) prog_2_method_18_code 2 (some (.object "java/lang/IllegalStateException")) ({ frames := 7, cells := 20, slots := 5000, locals := 130 } : Room) #[(.ref xn), (.ref xk)] h0 [] (fun v h => ∃ (a x t : Addr) (kb : ClassId), v = some (.ref a) ∧ Keep h0 h [] ∧ h0.size ≤ a ∧ Exa Z h a "java/lang/IllegalStateException" ∧ Unt h a ∧ Fld Z h a "java/lang/Throwable" "detailMessage" "Ljava/lang/String;" (.ref x) ∧ Fld Z h a "java/lang/Throwable" "cause" "Ljava/lang/Throwable;" (.ref a) ∧ Exa Z h x "java/lang/String" ∧ Fld Z h x "java/lang/String" "value" "[B" (.ref t) ∧ Fld Z h x "java/lang/String" "coder" "B" (.int (0 : Int32)) ∧ Arv Z h t kb .byte (Int32.ofNat ((own_msg ck cn) : List Int32).length) ((((own_msg ck cn) : List Int32).map (fun c : Int32 => c.toInt8.toInt32)).map Value.int) (.int (0 : Int32))) := by
  refine own_kc (plainFor_of_name (by first | (simp [plainName, overriddenIn]; done) | decide +kernel)) hEL ?_
  intro p e s m below meth c s₁ S0 X0 hx hby hml hret hnm hown hZ e0 hS0 CR0 hsf hTK hBe cc
  have N0 := Fr.nil Z.heap.size
  have hk0 : 0 ≤ h0.size := Nat.zero_le _
  have hstr : ∀ d ∈ Bundle.stringAtoms, d.before a0 Z = true := fun d hd => hw d (own_strA d hd)
  have c0 : Steps p.tables e below S0 (s₁.setTop (mkF m 0 #[.val (.ref xn), .val (.ref xk)] [])) := cc.trans (XT.entry rfl)
  obtain ⟨T1, h1, X1, e1, E1, A1, D1, U1, st1⟩ := newO X0 hx hZ hown (hw _ (List.mem_of_getElem? (i := 44) rfl)) (hw _ (List.mem_of_getElem? (i := 45) rfl)) (hw _ (List.mem_of_getElem? (i := 46) rfl)) e0 (g := (mkF m 0 #[.val (.ref xn), .val (.ref xk)] [])) rfl (hb hby d8_0) (by decide) (by decide)
  obtain ⟨b1, g1⟩ : ∃ z, z = h0.size := ⟨_, rfl⟩
  rw [← g1] at A1 D1 U1 st1
  have lo1 : h0.size ≤ b1 := Nat.le_of_eq g1.symm
  have ge1 : Z.heap.size ≤ b1 := Nat.le_trans O0.2.1 lo1
  have R1 := CHr.ext (EL := EL) E1 CR0.1
  have sf1 := Safe.ext E1 CR0.1 (Safe.new lo1)
  have CR1 := CR0.trans R1
  have hk1 := Nat.le_trans hk0 R1.2.1
  have U1 : Unt h1 b1 := U1
  have F1_cause : Fld Z h1 b1 "java/lang/Throwable" "cause" "Ljava/lang/Throwable;" .null := D1 (Or.inl (hw _ (List.mem_of_getElem? (i := 203) rfl))) (ty := (.object "java/lang/Throwable")) (by decide)
  have F1_stackTrace : Fld Z h1 b1 "java/lang/Throwable" "stackTrace" "[Ljava/lang/StackTraceElement;" .null := D1 (Or.inl (hw _ (List.mem_of_getElem? (i := 206) rfl))) (ty := (.array (.object "java/lang/StackTraceElement"))) (by decide)
  have F1_suppressedExceptions : Fld Z h1 b1 "java/lang/Throwable" "suppressedExceptions" "Ljava/util/List;" .null := D1 (Or.inl (hw _ (List.mem_of_getElem? (i := 209) rfl))) (ty := (.object "java/util/List")) (by decide)
  have F1_detailMessage : Fld Z h1 b1 "java/lang/Throwable" "detailMessage" "Ljava/lang/String;" .null := D1 (Or.inl (hw _ (List.mem_of_getElem? (i := 233) rfl))) (ty := (.object "java/lang/String")) (by decide)
  have F1_backtrace : Fld Z h1 b1 "java/lang/Throwable" "backtrace" "Ljava/lang/Object;" .null := D1 (Or.inl (hw _ (List.mem_of_getElem? (i := 234) rfl))) (ty := (.object "java/lang/Object")) (by decide)
  have F1_depth : Fld Z h1 b1 "java/lang/Throwable" "depth" "I" (.int (0 : Int32)) := D1 (Or.inl (hw _ (List.mem_of_getElem? (i := 235) rfl))) (ty := .int) (by decide)
  obtain ⟨T2, h2, X2, e2, E2, A2, D2, U2, st2⟩ := newO X1 hx hZ hown (hw _ (List.mem_of_getElem? (i := 47) rfl)) (hw _ (List.mem_of_getElem? (i := 48) rfl)) (hw _ (List.mem_of_getElem? (i := 49) rfl)) e1 (g := (mkF m 4 #[.val (.ref xn), .val (.ref xk)] [(.ref b1), (.ref b1)])) rfl (hb hby d8_4) (by decide) (by decide)
  obtain ⟨b2, g2⟩ : ∃ z, z = h1.size := ⟨_, rfl⟩
  rw [← g2] at A2 D2 U2 st2
  have lo2 : h1.size ≤ b2 := Nat.le_of_eq g2.symm
  have ge2 : Z.heap.size ≤ b2 := Nat.le_trans (O0.ext E1).2.1 lo2
  have R2 := CHr.ext (EL := EL) E2 CR1.1
  have sf2 := Safe.ext E2 CR1.1 (Safe.new lo2)
  have CR2 := CR1.trans R2
  have hk2 := Nat.le_trans hk1 R2.2.1
  have U2 : Unt h2 b2 := U2
  have F2_value : Fld Z h2 b2 "java/lang/AbstractStringBuilder" "value" "[B" .null := D2 (Or.inl (hw _ (List.mem_of_getElem? (i := 62) rfl))) (ty := (.array .byte)) (by decide)
  have F2_coder : Fld Z h2 b2 "java/lang/AbstractStringBuilder" "coder" "B" (.int (0 : Int32)) := D2 (Or.inl (hw _ (List.mem_of_getElem? (i := 64) rfl))) (ty := .byte) (by decide)
  have F2_count : Fld Z h2 b2 "java/lang/AbstractStringBuilder" "count" "I" (.int (0 : Int32)) := D2 (Or.inl (hw _ (List.mem_of_getElem? (i := 87) rfl))) (ty := .int) (by decide)
  have c3 : Steps p.tables e below S0 (T2.setTop (mkF m 8 #[.val (.ref xn), .val (.ref xk)] [(.ref b2), (.ref b2), (.ref b1), (.ref b1)])) := c0.trans (by
    refine st1 _ ?_
    refine XS.dup X1.here hx rfl (hb hby d8_3) rfl rfl ?_
    refine st2 _ ?_
    refine XS.dup X2.here hx rfl (hb hby d8_7) rfl rfl ?_
    exact Steps.refl _)
  obtain ⟨v4, T4, L4, X4, ⟨N4', rfl, t4, kb4, SB4, K4, lo4⟩, c4'⟩ := own_spec X2 hx hml hZ hown rfl (hw _ (List.mem_of_getElem? (i := 50) rfl)) (hw _ (List.mem_of_getElem? (i := 51) rfl)) (hw _ (List.mem_of_getElem? (i := 52) rfl)) (by decide) (kc := 1) (ks := 16) (h := h2) (W := 3) (b := b2) (argsL := []) (rest := [(.ref b2), (.ref b1), (.ref b1)]) (own_pay (R := ({ frames := 7, cells := 20, slots := 5000, locals := 130 } : Room)) (s := (s.setVm s.vm)) (W := 3) (rmS0 l Z a0 hw b2 _ _ z fm h2 ((O0.ext E1).ext E2) A2 F2_count F2_coder F2_value ge2 SC hz SF hfm) hZ (hw _ (List.mem_of_getElem? (i := 52) rfl)) (hw _ (List.mem_of_getElem? (i := 49) rfl)) (by decide) (by decide)) c3 (lenOf pd_16 rfl) rfl (hb hby d8_8) e2
  have N4 := Fr.app N0 N4'
  have R4 := CHr.keep K4 (sfS sf2 sf0) CR2.1
  have CR4 := CR2.trans R4
  have hk4 := Nat.le_trans hk2 R4.2.1
  have c4 : Steps p.tables e below S0 (T4.setTop (mkF m 11 #[.val (.ref xn), .val (.ref xk)] [(.ref b2), (.ref b1), (.ref b1)])) := c4'
  have sft4 := Safe.keep K4 (sfS sf2 sf0) CR2.1 (Safe.new lo4)
  obtain ⟨Eb4, Fc4, Fo4, Fv4, Vt4, Et4, hle4, hL44, hbt4, gb4, gt4⟩ := id SB4
  obtain ⟨la_5, T5, h5, kn5, lb_5, lk5, X5, e5, E5, hS5, hk5, hZ5, hown5, Ea5, Ca5, Va5, Kb5, la5, lb5, R5, Lt5, ne5, st5⟩ := own_ldcWCH X4 hx hZ hown (hw _ (List.mem_of_getElem? (i := 65) rfl)) hstr rfl hS0 hk4 hEL (by decide) CR4.1 (vs := [(.int (116 : Int32)), (.int (104 : Int32)), (.int (101 : Int32)), (.int (32 : Int32)), (.int (108 : Int32)), (.int (111 : Int32)), (.int (97 : Int32)), (.int (100 : Int32)), (.int (101 : Int32)), (.int (114 : Int32)), (.int (32 : Int32)), (.int (111 : Int32)), (.int (102 : Int32)), (.int (32 : Int32)), (.int (107 : Int32)), (.int (101 : Int32)), (.int (121 : Int32)), (.int (32 : Int32))]) (z := (18 : Int32)) ⟨by decide, by decide⟩ (by decide) (by decide) (g := (mkF m 11 #[.val (.ref xn), .val (.ref xk)] [(.ref b2), (.ref b1), (.ref b1)])) rfl (hb hby d8_11) (n := 72) (by decide) (by decide) (by decide) (by decide)
  have CR5 := CR4.trans R5
  have c6 : Steps p.tables e below S0 (T5.setTop (mkF m 14 #[.val (.ref xn), .val (.ref xk)] [(.ref la_5), (.ref b2), (.ref b1), (.ref b1)])) := c4.trans (by
    refine st5 _ ?_
    exact Steps.refl _)
  have Kl7 : Arv Z h5 lb_5 lk5 .byte (Int32.ofNat (own_p : List Int32).length) (((own_p : List Int32).map (fun c : Int32 => c.toInt8.toInt32)).map Value.int) (.int (0 : Int32)) := by rw [own_pB, own_pE]; exact Kb5
  obtain ⟨v8, T8, L8, X8, ⟨N8', rfl, t8, kb8, M8, SB8, K8, ht8, hM8⟩, c8'⟩ := own_virt X5 hx hml hZ5 hown5 (hw _ (List.mem_of_getElem? (i := 66) rfl)) (hw _ (List.mem_of_getElem? (i := 67) rfl)) (hw _ (List.mem_of_getElem? (i := 69) rfl)) (hw _ (List.mem_of_getElem? (i := 68) rfl)) (hw _ (List.mem_of_getElem? (i := 69) rfl)) (by decide) (kc := 1) (ks := 100) (h := h5) (W := 2) (b := b2) (argsL := [(.ref la_5)]) (rest := [(.ref b1), (.ref b1)]) (own_pay (R := ({ frames := 7, cells := 20, slots := 5000, locals := 130 } : Room)) (s := (s.setVm T5.vm)) (W := 2) (rmSS l Z a0 hw b2 t4 kb4 16 [] own_p la_5 lb_5 lk5 z fm h5 ((((O0.ext E1).ext E2).keep K4 (allS gb4 all0)).ext E5) ⟨(Eb4.ext E5), (Fc4.ext E5), (Fo4.ext E5), (Fv4.ext E5), (Vt4.ext E5), (Et4.ext E5), hle4, hL44, hbt4, gb4, gt4⟩ Ea5 Va5 Ca5 Kl7 (Ne.symm (ne5 b2 ((R4.trans R5).safe A2.lt sf2)).1) (Ne.symm (ne5 t4 (R5.safe Vt4.lt sft4)).1) (Ne.symm (ne5 b2 ((R4.trans R5).safe A2.lt sf2)).2) (Ne.symm (ne5 t4 (R5.safe Vt4.lt sft4)).2) (by decide) SC hz SF hfm own_pC (by have r1 := own_pN; have r2 := own_mN; have r3 := own_sN;  first | omega | (simp only [List.length_append, List.length_nil]; omega))) hZ5 (hw _ (List.mem_of_getElem? (i := 70) rfl)) (hw _ (List.mem_of_getElem? (i := 49) rfl)) (by decide) (by decide)) (Eb4.ext E5) c6 (lenOf pd_17 rfl) rfl (hb hby d8_14) e5
  have N8 := Fr.app N4 N8'
  have R8 := CHr.keep K8 (sfS ((R4.trans R5).safe A2.lt sf2) (sfS (R5.safe Vt4.lt sft4) sf0)) CR5.1
  have CR8 := CR5.trans R8
  have hk8 := Nat.le_trans hk5 R8.2.1
  have c8 : Steps p.tables e below S0 (T8.setTop (mkF m 17 #[.val (.ref xn), .val (.ref xk)] [(.ref b2), (.ref b1), (.ref b1)])) := c8'
  have hm8 : M8 = 34 := by have q := hM8; have r1 := own_pN; have r2 := own_mN; have r3 := own_sN;  first | omega | (simp only [List.length_append, List.length_nil] at q; omega) | (simp only [List.length_append, List.length_nil] at q ⊢; omega)
  subst hm8
  have SB8 : own_SB Z T8.heap b2 t8 kb8 34 own_p := SB8
  have lot8 : h2.size ≤ t8 := ht8.elim (fun q => by rw [q]; exact lo4) (fun q => Nat.le_trans (Nat.le_trans K4.1 E5.1) q)
  have sft8 := Safe.keep K8 (sfS ((R4.trans R5).safe A2.lt sf2) (sfS (R5.safe Vt4.lt sft4) sf0)) CR5.1 (own_sfE ht8 (R5.safe Vt4.lt sft4))
  obtain ⟨Eb8, Fc8, Fo8, Fv8, Vt8, Et8, hle8, hL48, hbt8, gb8, gt8⟩ := id SB8
  have c9 : Steps p.tables e below S0 (T8.setTop (mkF m 18 #[.val (.ref xn), .val (.ref xk)] [(.ref xk), (.ref b2), (.ref b1), (.ref b1)])) := c8.trans (by
    refine XS.aloadN X8.here hx rfl (hb hby d8_17) rfl rfl ?_
    exact Steps.refl _)
  obtain ⟨v10, T10, L10, X10, ⟨N10', rfl, t10, kb10, M10, SB10, K10, ht10, hM10⟩, c10'⟩ := own_virt X8 hx hml hZ5 hown5 (hw _ (List.mem_of_getElem? (i := 66) rfl)) (hw _ (List.mem_of_getElem? (i := 67) rfl)) (hw _ (List.mem_of_getElem? (i := 69) rfl)) (hw _ (List.mem_of_getElem? (i := 68) rfl)) (hw _ (List.mem_of_getElem? (i := 69) rfl)) (by decide) (kc := 1) (ks := 100) (h := T8.heap) (W := 2) (b := b2) (argsL := [(.ref xk)]) (rest := [(.ref b1), (.ref b1)]) (own_pay (R := ({ frames := 7, cells := 20, slots := 5000, locals := 130 } : Room)) (s := (s.setVm T5.vm)) (W := 2) (rmSS l Z a0 hw b2 t8 kb8 34 own_p ck xk tk bk z fm T8.heap (((((O0.ext E1).ext E2).keep K4 (allS gb8 all0)).ext E5).keep K8 (allS gb8 (allS gt4 all0))) ⟨Eb8, Fc8, Fo8, Fv8, Vt8, Et8, hle8, hL48, hbt8, gb8, gt8⟩ (((((Ek.ext E1).ext E2).keep K4).ext E5).keep K8) (((((Vk.ext E1).ext E2).keep K4 (ninS (Nat.ne_of_lt (Nat.lt_of_lt_of_le (Nat.lt_of_lt_of_le Ek.lt E1.1) lo2)) nin0)).ext E5).keep K8 (ninS (Nat.ne_of_lt (Nat.lt_of_lt_of_le (Nat.lt_of_lt_of_le Ek.lt E1.1) lo2)) (ninS (Nat.ne_of_lt (Nat.lt_of_lt_of_le (Nat.lt_of_lt_of_le Ek.lt (Nat.le_trans E1.1 E2.1)) lo4)) nin0))) (((((Cdk.ext E1).ext E2).keep K4 (ninS (Nat.ne_of_lt (Nat.lt_of_lt_of_le (Nat.lt_of_lt_of_le Ek.lt E1.1) lo2)) nin0)).ext E5).keep K8 (ninS (Nat.ne_of_lt (Nat.lt_of_lt_of_le (Nat.lt_of_lt_of_le Ek.lt E1.1) lo2)) (ninS (Nat.ne_of_lt (Nat.lt_of_lt_of_le (Nat.lt_of_lt_of_le Ek.lt (Nat.le_trans E1.1 E2.1)) lo4)) nin0))) (((((Kk.ext E1).ext E2).keep K4 (ninS (Nat.ne_of_lt (Nat.lt_of_lt_of_le (Nat.lt_of_lt_of_le Kk.lt E1.1) lo2)) nin0)).ext E5).keep K8 (ninS (Nat.ne_of_lt (Nat.lt_of_lt_of_le (Nat.lt_of_lt_of_le Kk.lt E1.1) lo2)) (ninS (Nat.ne_of_lt (Nat.lt_of_lt_of_le (Nat.lt_of_lt_of_le Kk.lt (Nat.le_trans E1.1 E2.1)) lo4)) nin0))) (Nat.ne_of_lt (Nat.lt_of_lt_of_le (Nat.lt_of_lt_of_le Ek.lt E1.1) lo2)) (Nat.ne_of_lt (Nat.lt_of_lt_of_le (Nat.lt_of_lt_of_le Ek.lt (Nat.le_trans E1.1 E2.1)) lot8)) (Nat.ne_of_lt (Nat.lt_of_lt_of_le (Nat.lt_of_lt_of_le Kk.lt E1.1) lo2)) (Nat.ne_of_lt (Nat.lt_of_lt_of_le (Nat.lt_of_lt_of_le Kk.lt (Nat.le_trans E1.1 E2.1)) lot8)) (Nat.le_trans lk (by decide)) SC hz SF hfm hBk (by have r1 := own_pN; have r2 := own_mN; have r3 := own_sN;  first | omega | (simp only [List.length_append, List.length_nil]; omega))) hZ5 (hw _ (List.mem_of_getElem? (i := 70) rfl)) (hw _ (List.mem_of_getElem? (i := 49) rfl)) (by decide) (by decide)) Eb8 c9 (lenOf pd_17 rfl) rfl (hb hby d8_18) rfl
  have N10 := Fr.app N8 N10'
  have R10 := CHr.keep K10 (sfS (((R4.trans R5).trans R8).safe A2.lt sf2) (sfS sft8 sf0)) CR8.1
  have CR10 := CR8.trans R10
  have hk10 := Nat.le_trans hk8 R10.2.1
  have c10 : Steps p.tables e below S0 (T10.setTop (mkF m 21 #[.val (.ref xn), .val (.ref xk)] [(.ref b2), (.ref b1), (.ref b1)])) := c10'
  have hm10 : M10 = 34 := by have q := hM10; have r1 := own_pN; have r2 := own_mN; have r3 := own_sN;  first | omega | (simp only [List.length_append, List.length_nil] at q; omega) | (simp only [List.length_append, List.length_nil] at q ⊢; omega)
  subst hm10
  have lot10 : h2.size ≤ t10 := ht10.elim (fun q => by rw [q]; exact lot8) (fun q => Nat.le_trans (Nat.le_trans (Nat.le_trans K4.1 E5.1) K8.1) q)
  have sft10 := Safe.keep K10 (sfS (((R4.trans R5).trans R8).safe A2.lt sf2) (sfS sft8 sf0)) CR8.1 (own_sfE ht10 sft8)
  obtain ⟨Eb10, Fc10, Fo10, Fv10, Vt10, Et10, hle10, hL410, hbt10, gb10, gt10⟩ := id SB10
  obtain ⟨la_11, T11, h11, kn11, lb_11, lk11, X11, e11, E11, hS11, hk11, hZ11, hown11, Ea11, Ca11, Va11, Kb11, la11, lb11, R11, Lt11, ne11, st11⟩ := own_ldcWCH X10 hx hZ5 hown5 (hw _ (List.mem_of_getElem? (i := 136) rfl)) hstr rfl hS5 hk10 hEL (by decide) CR10.1 (vs := [(.int (32 : Int32)), (.int (111 : Int32)), (.int (102 : Int32)), (.int (32 : Int32)), (.int (99 : Int32)), (.int (97 : Int32)), (.int (99 : Int32)), (.int (104 : Int32)), (.int (101 : Int32)), (.int (32 : Int32))]) (z := (10 : Int32)) ⟨by decide, by decide⟩ (by decide) (by decide) (g := (mkF m 21 #[.val (.ref xn), .val (.ref xk)] [(.ref b2), (.ref b1), (.ref b1)])) rfl (hb hby d8_21) (n := 40) (by decide) (by decide) (by decide) (by decide)
  have CR11 := CR10.trans R11
  have c12 : Steps p.tables e below S0 (T11.setTop (mkF m 24 #[.val (.ref xn), .val (.ref xk)] [(.ref la_11), (.ref b2), (.ref b1), (.ref b1)])) := c10.trans (by
    refine st11 _ ?_
    exact Steps.refl _)
  have Kl13 : Arv Z h11 lb_11 lk11 .byte (Int32.ofNat (own_m : List Int32).length) (((own_m : List Int32).map (fun c : Int32 => c.toInt8.toInt32)).map Value.int) (.int (0 : Int32)) := by rw [own_mB, own_mE]; exact Kb11
  obtain ⟨v14, T14, L14, X14, ⟨N14', rfl, t14, kb14, M14, SB14, K14, ht14, hM14⟩, c14'⟩ := own_virt X11 hx hml hZ11 hown11 (hw _ (List.mem_of_getElem? (i := 66) rfl)) (hw _ (List.mem_of_getElem? (i := 67) rfl)) (hw _ (List.mem_of_getElem? (i := 69) rfl)) (hw _ (List.mem_of_getElem? (i := 68) rfl)) (hw _ (List.mem_of_getElem? (i := 69) rfl)) (by decide) (kc := 1) (ks := 100) (h := h11) (W := 2) (b := b2) (argsL := [(.ref la_11)]) (rest := [(.ref b1), (.ref b1)]) (own_pay (R := ({ frames := 7, cells := 20, slots := 5000, locals := 130 } : Room)) (s := (s.setVm T11.vm)) (W := 2) (rmSS l Z a0 hw b2 t10 kb10 34 (own_p ++ ck) own_m la_11 lb_11 lk11 z fm h11 (((((((O0.ext E1).ext E2).keep K4 (allS gb10 all0)).ext E5).keep K8 (allS gb10 (allS gt4 all0))).keep K10 (allS gb10 (allS gt8 all0))).ext E11) ⟨(Eb10.ext E11), (Fc10.ext E11), (Fo10.ext E11), (Fv10.ext E11), (Vt10.ext E11), (Et10.ext E11), hle10, hL410, hbt10, gb10, gt10⟩ Ea11 Va11 Ca11 Kl13 (Ne.symm (ne11 b2 (((((R4.trans R5).trans R8).trans R10).trans R11).safe A2.lt sf2)).1) (Ne.symm (ne11 t10 (R11.safe Vt10.lt sft10)).1) (Ne.symm (ne11 b2 (((((R4.trans R5).trans R8).trans R10).trans R11).safe A2.lt sf2)).2) (Ne.symm (ne11 t10 (R11.safe Vt10.lt sft10)).2) (by decide) SC hz SF hfm own_mC (by have r1 := own_pN; have r2 := own_mN; have r3 := own_sN;  first | omega | (simp only [List.length_append, List.length_nil]; omega))) hZ11 (hw _ (List.mem_of_getElem? (i := 70) rfl)) (hw _ (List.mem_of_getElem? (i := 49) rfl)) (by decide) (by decide)) (Eb10.ext E11) c12 (lenOf pd_17 rfl) rfl (hb hby d8_24) e11
  have N14 := Fr.app N10 N14'
  have R14 := CHr.keep K14 (sfS (((((R4.trans R5).trans R8).trans R10).trans R11).safe A2.lt sf2) (sfS (R11.safe Vt10.lt sft10) sf0)) CR11.1
  have CR14 := CR11.trans R14
  have hk14 := Nat.le_trans hk11 R14.2.1
  have c14 : Steps p.tables e below S0 (T14.setTop (mkF m 27 #[.val (.ref xn), .val (.ref xk)] [(.ref b2), (.ref b1), (.ref b1)])) := c14'
  have hm14 : M14 = 34 := by have q := hM14; have r1 := own_pN; have r2 := own_mN; have r3 := own_sN;  first | omega | (simp only [List.length_append, List.length_nil] at q; omega) | (simp only [List.length_append, List.length_nil] at q ⊢; omega)
  subst hm14
  have lot14 : h2.size ≤ t14 := ht14.elim (fun q => by rw [q]; exact lot10) (fun q => Nat.le_trans (Nat.le_trans (Nat.le_trans (Nat.le_trans (Nat.le_trans K4.1 E5.1) K8.1) K10.1) E11.1) q)
  have sft14 := Safe.keep K14 (sfS (((((R4.trans R5).trans R8).trans R10).trans R11).safe A2.lt sf2) (sfS (R11.safe Vt10.lt sft10) sf0)) CR11.1 (own_sfE ht14 (R11.safe Vt10.lt sft10))
  obtain ⟨Eb14, Fc14, Fo14, Fv14, Vt14, Et14, hle14, hL414, hbt14, gb14, gt14⟩ := id SB14
  have c15 : Steps p.tables e below S0 (T14.setTop (mkF m 28 #[.val (.ref xn), .val (.ref xk)] [(.ref xn), (.ref b2), (.ref b1), (.ref b1)])) := c14.trans (by
    refine XS.aloadN X14.here hx rfl (hb hby d8_27) rfl rfl ?_
    exact Steps.refl _)
  obtain ⟨v16, T16, L16, X16, ⟨N16', rfl, t16, kb16, M16, SB16, K16, ht16, hM16⟩, c16'⟩ := own_virt X14 hx hml hZ11 hown11 (hw _ (List.mem_of_getElem? (i := 66) rfl)) (hw _ (List.mem_of_getElem? (i := 67) rfl)) (hw _ (List.mem_of_getElem? (i := 69) rfl)) (hw _ (List.mem_of_getElem? (i := 68) rfl)) (hw _ (List.mem_of_getElem? (i := 69) rfl)) (by decide) (kc := 1) (ks := 100) (h := T14.heap) (W := 2) (b := b2) (argsL := [(.ref xn)]) (rest := [(.ref b1), (.ref b1)]) (own_pay (R := ({ frames := 7, cells := 20, slots := 5000, locals := 130 } : Room)) (s := (s.setVm T11.vm)) (W := 2) (rmSS l Z a0 hw b2 t14 kb14 34 ((own_p ++ ck) ++ own_m) cn xn tn bn z fm T14.heap ((((((((O0.ext E1).ext E2).keep K4 (allS gb14 all0)).ext E5).keep K8 (allS gb14 (allS gt4 all0))).keep K10 (allS gb14 (allS gt8 all0))).ext E11).keep K14 (allS gb14 (allS gt10 all0))) ⟨Eb14, Fc14, Fo14, Fv14, Vt14, Et14, hle14, hL414, hbt14, gb14, gt14⟩ ((((((((En.ext E1).ext E2).keep K4).ext E5).keep K8).keep K10).ext E11).keep K14) ((((((((Vn.ext E1).ext E2).keep K4 (ninS (Nat.ne_of_lt (Nat.lt_of_lt_of_le (Nat.lt_of_lt_of_le En.lt E1.1) lo2)) nin0)).ext E5).keep K8 (ninS (Nat.ne_of_lt (Nat.lt_of_lt_of_le (Nat.lt_of_lt_of_le En.lt E1.1) lo2)) (ninS (Nat.ne_of_lt (Nat.lt_of_lt_of_le (Nat.lt_of_lt_of_le En.lt (Nat.le_trans E1.1 E2.1)) lo4)) nin0))).keep K10 (ninS (Nat.ne_of_lt (Nat.lt_of_lt_of_le (Nat.lt_of_lt_of_le En.lt E1.1) lo2)) (ninS (Nat.ne_of_lt (Nat.lt_of_lt_of_le (Nat.lt_of_lt_of_le En.lt (Nat.le_trans E1.1 E2.1)) lot8)) nin0))).ext E11).keep K14 (ninS (Nat.ne_of_lt (Nat.lt_of_lt_of_le (Nat.lt_of_lt_of_le En.lt E1.1) lo2)) (ninS (Nat.ne_of_lt (Nat.lt_of_lt_of_le (Nat.lt_of_lt_of_le En.lt (Nat.le_trans E1.1 E2.1)) lot10)) nin0))) ((((((((Cdn.ext E1).ext E2).keep K4 (ninS (Nat.ne_of_lt (Nat.lt_of_lt_of_le (Nat.lt_of_lt_of_le En.lt E1.1) lo2)) nin0)).ext E5).keep K8 (ninS (Nat.ne_of_lt (Nat.lt_of_lt_of_le (Nat.lt_of_lt_of_le En.lt E1.1) lo2)) (ninS (Nat.ne_of_lt (Nat.lt_of_lt_of_le (Nat.lt_of_lt_of_le En.lt (Nat.le_trans E1.1 E2.1)) lo4)) nin0))).keep K10 (ninS (Nat.ne_of_lt (Nat.lt_of_lt_of_le (Nat.lt_of_lt_of_le En.lt E1.1) lo2)) (ninS (Nat.ne_of_lt (Nat.lt_of_lt_of_le (Nat.lt_of_lt_of_le En.lt (Nat.le_trans E1.1 E2.1)) lot8)) nin0))).ext E11).keep K14 (ninS (Nat.ne_of_lt (Nat.lt_of_lt_of_le (Nat.lt_of_lt_of_le En.lt E1.1) lo2)) (ninS (Nat.ne_of_lt (Nat.lt_of_lt_of_le (Nat.lt_of_lt_of_le En.lt (Nat.le_trans E1.1 E2.1)) lot10)) nin0))) ((((((((Kn.ext E1).ext E2).keep K4 (ninS (Nat.ne_of_lt (Nat.lt_of_lt_of_le (Nat.lt_of_lt_of_le Kn.lt E1.1) lo2)) nin0)).ext E5).keep K8 (ninS (Nat.ne_of_lt (Nat.lt_of_lt_of_le (Nat.lt_of_lt_of_le Kn.lt E1.1) lo2)) (ninS (Nat.ne_of_lt (Nat.lt_of_lt_of_le (Nat.lt_of_lt_of_le Kn.lt (Nat.le_trans E1.1 E2.1)) lo4)) nin0))).keep K10 (ninS (Nat.ne_of_lt (Nat.lt_of_lt_of_le (Nat.lt_of_lt_of_le Kn.lt E1.1) lo2)) (ninS (Nat.ne_of_lt (Nat.lt_of_lt_of_le (Nat.lt_of_lt_of_le Kn.lt (Nat.le_trans E1.1 E2.1)) lot8)) nin0))).ext E11).keep K14 (ninS (Nat.ne_of_lt (Nat.lt_of_lt_of_le (Nat.lt_of_lt_of_le Kn.lt E1.1) lo2)) (ninS (Nat.ne_of_lt (Nat.lt_of_lt_of_le (Nat.lt_of_lt_of_le Kn.lt (Nat.le_trans E1.1 E2.1)) lot10)) nin0))) (Nat.ne_of_lt (Nat.lt_of_lt_of_le (Nat.lt_of_lt_of_le En.lt E1.1) lo2)) (Nat.ne_of_lt (Nat.lt_of_lt_of_le (Nat.lt_of_lt_of_le En.lt (Nat.le_trans E1.1 E2.1)) lot14)) (Nat.ne_of_lt (Nat.lt_of_lt_of_le (Nat.lt_of_lt_of_le Kn.lt E1.1) lo2)) (Nat.ne_of_lt (Nat.lt_of_lt_of_le (Nat.lt_of_lt_of_le Kn.lt (Nat.le_trans E1.1 E2.1)) lot14)) (Nat.le_trans ln (by decide)) SC hz SF hfm hBn (by have r1 := own_pN; have r2 := own_mN; have r3 := own_sN;  first | omega | (simp only [List.length_append, List.length_nil]; omega))) hZ11 (hw _ (List.mem_of_getElem? (i := 70) rfl)) (hw _ (List.mem_of_getElem? (i := 49) rfl)) (by decide) (by decide)) Eb14 c15 (lenOf pd_17 rfl) rfl (hb hby d8_28) rfl
  have N16 := Fr.app N14 N16'
  have R16 := CHr.keep K16 (sfS ((((((R4.trans R5).trans R8).trans R10).trans R11).trans R14).safe A2.lt sf2) (sfS sft14 sf0)) CR14.1
  have CR16 := CR14.trans R16
  have hk16 := Nat.le_trans hk14 R16.2.1
  have c16 : Steps p.tables e below S0 (T16.setTop (mkF m 31 #[.val (.ref xn), .val (.ref xk)] [(.ref b2), (.ref b1), (.ref b1)])) := c16'
  have hm16 : M16 = 34 := by have q := hM16; have r1 := own_pN; have r2 := own_mN; have r3 := own_sN;  first | omega | (simp only [List.length_append, List.length_nil] at q; omega) | (simp only [List.length_append, List.length_nil] at q ⊢; omega)
  subst hm16
  have lot16 : h2.size ≤ t16 := ht16.elim (fun q => by rw [q]; exact lot14) (fun q => Nat.le_trans (Nat.le_trans (Nat.le_trans (Nat.le_trans (Nat.le_trans (Nat.le_trans K4.1 E5.1) K8.1) K10.1) E11.1) K14.1) q)
  have sft16 := Safe.keep K16 (sfS ((((((R4.trans R5).trans R8).trans R10).trans R11).trans R14).safe A2.lt sf2) (sfS sft14 sf0)) CR14.1 (own_sfE ht16 sft14)
  obtain ⟨Eb16, Fc16, Fo16, Fv16, Vt16, Et16, hle16, hL416, hbt16, gb16, gt16⟩ := id SB16
  obtain ⟨la_17, T17, h17, kn17, lb_17, lk17, X17, e17, E17, hS17, hk17, hZ17, hown17, Ea17, Ca17, Va17, Kb17, la17, lb17, R17, Lt17, ne17, st17⟩ := own_ldcWCH X16 hx hZ11 hown11 (hw _ (List.mem_of_getElem? (i := 137) rfl)) hstr rfl hS11 hk16 hEL (by decide) CR16.1 (vs := [(.int (32 : Int32)), (.int (97 : Int32)), (.int (115 : Int32)), (.int (107 : Int32)), (.int (101 : Int32)), (.int (100 : Int32)), (.int (32 : Int32)), (.int (116 : Int32)), (.int (104 : Int32)), (.int (101 : Int32)), (.int (32 : Int32)), (.int (99 : Int32)), (.int (97 : Int32)), (.int (99 : Int32)), (.int (104 : Int32)), (.int (101 : Int32)), (.int (32 : Int32)), (.int (102 : Int32)), (.int (111 : Int32)), (.int (114 : Int32)), (.int (32 : Int32)), (.int (116 : Int32)), (.int (104 : Int32)), (.int (97 : Int32)), (.int (116 : Int32)), (.int (32 : Int32)), (.int (115 : Int32)), (.int (97 : Int32)), (.int (109 : Int32)), (.int (101 : Int32)), (.int (32 : Int32)), (.int (107 : Int32)), (.int (101 : Int32)), (.int (121 : Int32)), (.int (44 : Int32)), (.int (32 : Int32)), (.int (97 : Int32)), (.int (110 : Int32)), (.int (100 : Int32)), (.int (32 : Int32)), (.int (119 : Int32)), (.int (111 : Int32)), (.int (117 : Int32)), (.int (108 : Int32)), (.int (100 : Int32)), (.int (32 : Int32)), (.int (119 : Int32)), (.int (97 : Int32)), (.int (105 : Int32)), (.int (116 : Int32)), (.int (32 : Int32)), (.int (102 : Int32)), (.int (111 : Int32)), (.int (114 : Int32)), (.int (32 : Int32)), (.int (105 : Int32)), (.int (116 : Int32)), (.int (115 : Int32)), (.int (101 : Int32)), (.int (108 : Int32)), (.int (102 : Int32))]) (z := (61 : Int32)) ⟨by decide, by decide⟩ (by decide) (by decide) (g := (mkF m 31 #[.val (.ref xn), .val (.ref xk)] [(.ref b2), (.ref b1), (.ref b1)])) rfl (hb hby d8_31) (n := 244) (by decide) (by decide) (by decide) (by decide)
  have CR17 := CR16.trans R17
  have c18 : Steps p.tables e below S0 (T17.setTop (mkF m 34 #[.val (.ref xn), .val (.ref xk)] [(.ref la_17), (.ref b2), (.ref b1), (.ref b1)])) := c16.trans (by
    refine st17 _ ?_
    exact Steps.refl _)
  have Kl19 : Arv Z h17 lb_17 lk17 .byte (Int32.ofNat (own_s : List Int32).length) (((own_s : List Int32).map (fun c : Int32 => c.toInt8.toInt32)).map Value.int) (.int (0 : Int32)) := by rw [own_sB, own_sE]; exact Kb17
  obtain ⟨v20, T20, L20, X20, ⟨N20', rfl, t20, kb20, M20, SB20, K20, ht20, hM20⟩, c20'⟩ := own_virt X17 hx hml hZ17 hown17 (hw _ (List.mem_of_getElem? (i := 66) rfl)) (hw _ (List.mem_of_getElem? (i := 67) rfl)) (hw _ (List.mem_of_getElem? (i := 69) rfl)) (hw _ (List.mem_of_getElem? (i := 68) rfl)) (hw _ (List.mem_of_getElem? (i := 69) rfl)) (by decide) (kc := 1) (ks := 100) (h := h17) (W := 2) (b := b2) (argsL := [(.ref la_17)]) (rest := [(.ref b1), (.ref b1)]) (own_pay (R := ({ frames := 7, cells := 20, slots := 5000, locals := 130 } : Room)) (s := (s.setVm T17.vm)) (W := 2) (rmSS l Z a0 hw b2 t16 kb16 34 (((own_p ++ ck) ++ own_m) ++ cn) own_s la_17 lb_17 lk17 z fm h17 ((((((((((O0.ext E1).ext E2).keep K4 (allS gb16 all0)).ext E5).keep K8 (allS gb16 (allS gt4 all0))).keep K10 (allS gb16 (allS gt8 all0))).ext E11).keep K14 (allS gb16 (allS gt10 all0))).keep K16 (allS gb16 (allS gt14 all0))).ext E17) ⟨(Eb16.ext E17), (Fc16.ext E17), (Fo16.ext E17), (Fv16.ext E17), (Vt16.ext E17), (Et16.ext E17), hle16, hL416, hbt16, gb16, gt16⟩ Ea17 Va17 Ca17 Kl19 (Ne.symm (ne17 b2 ((((((((R4.trans R5).trans R8).trans R10).trans R11).trans R14).trans R16).trans R17).safe A2.lt sf2)).1) (Ne.symm (ne17 t16 (R17.safe Vt16.lt sft16)).1) (Ne.symm (ne17 b2 ((((((((R4.trans R5).trans R8).trans R10).trans R11).trans R14).trans R16).trans R17).safe A2.lt sf2)).2) (Ne.symm (ne17 t16 (R17.safe Vt16.lt sft16)).2) (by decide) SC hz SF hfm own_sC (by have r1 := own_pN; have r2 := own_mN; have r3 := own_sN;  first | omega | (simp only [List.length_append, List.length_nil]; omega))) hZ17 (hw _ (List.mem_of_getElem? (i := 70) rfl)) (hw _ (List.mem_of_getElem? (i := 49) rfl)) (by decide) (by decide)) (Eb16.ext E17) c18 (lenOf pd_17 rfl) rfl (hb hby d8_34) e17
  have N20 := Fr.app N16 N20'
  have R20 := CHr.keep K20 (sfS ((((((((R4.trans R5).trans R8).trans R10).trans R11).trans R14).trans R16).trans R17).safe A2.lt sf2) (sfS (R17.safe Vt16.lt sft16) sf0)) CR17.1
  have CR20 := CR17.trans R20
  have hk20 := Nat.le_trans hk17 R20.2.1
  have c20 : Steps p.tables e below S0 (T20.setTop (mkF m 37 #[.val (.ref xn), .val (.ref xk)] [(.ref b2), (.ref b1), (.ref b1)])) := c20'
  have hm20 : M20 = ((((own_p ++ ck) ++ own_m) ++ cn) ++ own_s).length := by have q := hM20; have r1 := own_pN; have r2 := own_mN; have r3 := own_sN;  first | omega | (simp only [List.length_append, List.length_nil] at q; omega) | (simp only [List.length_append, List.length_nil] at q ⊢; omega)
  subst hm20
  have lot20 : h2.size ≤ t20 := ht20.elim (fun q => by rw [q]; exact lot16) (fun q => Nat.le_trans (Nat.le_trans (Nat.le_trans (Nat.le_trans (Nat.le_trans (Nat.le_trans (Nat.le_trans (Nat.le_trans K4.1 E5.1) K8.1) K10.1) E11.1) K14.1) K16.1) E17.1) q)
  have sft20 := Safe.keep K20 (sfS ((((((((R4.trans R5).trans R8).trans R10).trans R11).trans R14).trans R16).trans R17).safe A2.lt sf2) (sfS (R17.safe Vt16.lt sft16) sf0)) CR17.1 (own_sfE ht20 (R17.safe Vt16.lt sft16))
  obtain ⟨Eb20, Fc20, Fo20, Fv20, Vt20, Et20, hle20, hL420, hbt20, gb20, gt20⟩ := id SB20
  obtain ⟨v21, T21, L21, X21, ⟨N21', x21, t21, kb21, rfl, K21, lo21, E21, V21, Cd21, Kb21⟩, c21'⟩ := own_virt X20 hx hml hZ17 hown17 (hw _ (List.mem_of_getElem? (i := 138) rfl)) (hw _ (List.mem_of_getElem? (i := 139) rfl)) (hw _ (List.mem_of_getElem? (i := 141) rfl)) (hw _ (List.mem_of_getElem? (i := 140) rfl)) (hw _ (List.mem_of_getElem? (i := 141) rfl)) (by decide) (kc := 2) (ks := 104) (h := T20.heap) (W := 2) (b := b2) (argsL := []) (rest := [(.ref b1), (.ref b1)]) (own_pay (R := ({ frames := 7, cells := 20, slots := 5000, locals := 130 } : Room)) (s := (s.setVm T17.vm)) (W := 2) (rmTS l Z a0 hw b2 t20 kb20 ((((own_p ++ ck) ++ own_m) ++ cn) ++ own_s).length ((((own_p ++ ck) ++ own_m) ++ cn) ++ own_s) z fm T20.heap (((((((((((O0.ext E1).ext E2).keep K4 (allS gb20 all0)).ext E5).keep K8 (allS gb20 (allS gt4 all0))).keep K10 (allS gb20 (allS gt8 all0))).ext E11).keep K14 (allS gb20 (allS gt10 all0))).keep K16 (allS gb20 (allS gt14 all0))).ext E17).keep K20 (allS gb20 (allS gt16 all0))) ⟨Eb20, Fc20, Fo20, Fv20, Vt20, Et20, hle20, hL420, hbt20, gb20, gt20⟩ (by have r1 := own_pN; have r2 := own_mN; have r3 := own_sN;  first | omega | (simp only [List.length_append, List.length_nil]; omega)) rfl SC hz SF hfm) hZ17 (hw _ (List.mem_of_getElem? (i := 142) rfl)) (hw _ (List.mem_of_getElem? (i := 49) rfl)) (by decide) (by decide)) Eb20 c20 (lenOf pd_18 rfl) rfl (hb hby d8_37) rfl
  have N21 := Fr.app N20 N21'
  have R21 := CHr.keep K21 sf0 CR20.1
  have CR21 := CR20.trans R21
  have hk21 := Nat.le_trans hk20 R21.2.1
  have c21 : Steps p.tables e below S0 (T21.setTop (mkF m 40 #[.val (.ref xn), .val (.ref xk)] [(.ref x21), (.ref b1), (.ref b1)])) := c21'
  have neT21 := own_neAE Kb21 (((((((((((A1.ext E2).keep K4).ext E5).keep K8).keep K10).ext E11).keep K14).keep K16).ext E17).keep K20).keep K21) (hw _ (List.mem_of_getElem? (i := 45) rfl))
  obtain ⟨v22, T22, L22, X22, ⟨N22', rfl, K22, E22, U22, M22, C22⟩, c22'⟩ := own_spec X21 hx hml hZ17 hown17 rfl (hw _ (List.mem_of_getElem? (i := 180) rfl)) (hw _ (List.mem_of_getElem? (i := 181) rfl)) (hw _ (List.mem_of_getElem? (i := 182) rfl)) (by decide) (kc := 1) (ks := 2752) (h := T21.heap) (W := 1) (b := b1) (argsL := [(.ref x21)]) (rest := [(.ref b1)]) (own_fpay (R := ({ frames := 7, cells := 20, slots := 5000, locals := 130 } : Room)) (s := (s.setVm T17.vm)) (W := 1) (rmIse l Z a0 hw b1 x21 uS uP T21.heap ((((((((((((O0.ext E1).ext E2).keep K4 (allS gb20 all0)).ext E5).keep K8 (allS gb20 (allS gt4 all0))).keep K10 (allS gb20 (allS gt8 all0))).ext E11).keep K14 (allS gb20 (allS gt10 all0))).keep K16 (allS gb20 (allS gt14 all0))).ext E17).keep K20 (allS gb20 (allS gt16 all0))).keep K21 all0) (((((((((((A1.ext E2).keep K4).ext E5).keep K8).keep K10).ext E11).keep K14).keep K16).ext E17).keep K20).keep K21) (Unt.keep K21 nin0 (Unt.keep K20 (ninS (Nat.ne_of_lt (Nat.lt_of_lt_of_le A1.lt lo2)) (ninS (Nat.ne_of_lt (Nat.lt_of_lt_of_le (Nat.lt_of_lt_of_le A1.lt E2.1) lot16)) nin0)) (Unt.ext E17 (Unt.keep K16 (ninS (Nat.ne_of_lt (Nat.lt_of_lt_of_le A1.lt lo2)) (ninS (Nat.ne_of_lt (Nat.lt_of_lt_of_le (Nat.lt_of_lt_of_le A1.lt E2.1) lot14)) nin0)) (Unt.keep K14 (ninS (Nat.ne_of_lt (Nat.lt_of_lt_of_le A1.lt lo2)) (ninS (Nat.ne_of_lt (Nat.lt_of_lt_of_le (Nat.lt_of_lt_of_le A1.lt E2.1) lot10)) nin0)) (Unt.ext E11 (Unt.keep K10 (ninS (Nat.ne_of_lt (Nat.lt_of_lt_of_le A1.lt lo2)) (ninS (Nat.ne_of_lt (Nat.lt_of_lt_of_le (Nat.lt_of_lt_of_le A1.lt E2.1) lot8)) nin0)) (Unt.keep K8 (ninS (Nat.ne_of_lt (Nat.lt_of_lt_of_le A1.lt lo2)) (ninS (Nat.ne_of_lt (Nat.lt_of_lt_of_le (Nat.lt_of_lt_of_le A1.lt E2.1) lo4)) nin0)) (Unt.ext E5 (Unt.keep K4 (ninS (Nat.ne_of_lt (Nat.lt_of_lt_of_le A1.lt lo2)) nin0) (Unt.ext E2 U1))))))))))) (((((((((((F1_cause.ext E2).keep K4 (ninS (Nat.ne_of_lt (Nat.lt_of_lt_of_le A1.lt lo2)) nin0)).ext E5).keep K8 (ninS (Nat.ne_of_lt (Nat.lt_of_lt_of_le A1.lt lo2)) (ninS (Nat.ne_of_lt (Nat.lt_of_lt_of_le (Nat.lt_of_lt_of_le A1.lt E2.1) lo4)) nin0))).keep K10 (ninS (Nat.ne_of_lt (Nat.lt_of_lt_of_le A1.lt lo2)) (ninS (Nat.ne_of_lt (Nat.lt_of_lt_of_le (Nat.lt_of_lt_of_le A1.lt E2.1) lot8)) nin0))).ext E11).keep K14 (ninS (Nat.ne_of_lt (Nat.lt_of_lt_of_le A1.lt lo2)) (ninS (Nat.ne_of_lt (Nat.lt_of_lt_of_le (Nat.lt_of_lt_of_le A1.lt E2.1) lot10)) nin0))).keep K16 (ninS (Nat.ne_of_lt (Nat.lt_of_lt_of_le A1.lt lo2)) (ninS (Nat.ne_of_lt (Nat.lt_of_lt_of_le (Nat.lt_of_lt_of_le A1.lt E2.1) lot14)) nin0))).ext E17).keep K20 (ninS (Nat.ne_of_lt (Nat.lt_of_lt_of_le A1.lt lo2)) (ninS (Nat.ne_of_lt (Nat.lt_of_lt_of_le (Nat.lt_of_lt_of_le A1.lt E2.1) lot16)) nin0))).keep K21 nin0) (((((((((((F1_stackTrace.ext E2).keep K4 (ninS (Nat.ne_of_lt (Nat.lt_of_lt_of_le A1.lt lo2)) nin0)).ext E5).keep K8 (ninS (Nat.ne_of_lt (Nat.lt_of_lt_of_le A1.lt lo2)) (ninS (Nat.ne_of_lt (Nat.lt_of_lt_of_le (Nat.lt_of_lt_of_le A1.lt E2.1) lo4)) nin0))).keep K10 (ninS (Nat.ne_of_lt (Nat.lt_of_lt_of_le A1.lt lo2)) (ninS (Nat.ne_of_lt (Nat.lt_of_lt_of_le (Nat.lt_of_lt_of_le A1.lt E2.1) lot8)) nin0))).ext E11).keep K14 (ninS (Nat.ne_of_lt (Nat.lt_of_lt_of_le A1.lt lo2)) (ninS (Nat.ne_of_lt (Nat.lt_of_lt_of_le (Nat.lt_of_lt_of_le A1.lt E2.1) lot10)) nin0))).keep K16 (ninS (Nat.ne_of_lt (Nat.lt_of_lt_of_le A1.lt lo2)) (ninS (Nat.ne_of_lt (Nat.lt_of_lt_of_le (Nat.lt_of_lt_of_le A1.lt E2.1) lot14)) nin0))).ext E17).keep K20 (ninS (Nat.ne_of_lt (Nat.lt_of_lt_of_le A1.lt lo2)) (ninS (Nat.ne_of_lt (Nat.lt_of_lt_of_le (Nat.lt_of_lt_of_le A1.lt E2.1) lot16)) nin0))).keep K21 nin0) (((((((((((F1_suppressedExceptions.ext E2).keep K4 (ninS (Nat.ne_of_lt (Nat.lt_of_lt_of_le A1.lt lo2)) nin0)).ext E5).keep K8 (ninS (Nat.ne_of_lt (Nat.lt_of_lt_of_le A1.lt lo2)) (ninS (Nat.ne_of_lt (Nat.lt_of_lt_of_le (Nat.lt_of_lt_of_le A1.lt E2.1) lo4)) nin0))).keep K10 (ninS (Nat.ne_of_lt (Nat.lt_of_lt_of_le A1.lt lo2)) (ninS (Nat.ne_of_lt (Nat.lt_of_lt_of_le (Nat.lt_of_lt_of_le A1.lt E2.1) lot8)) nin0))).ext E11).keep K14 (ninS (Nat.ne_of_lt (Nat.lt_of_lt_of_le A1.lt lo2)) (ninS (Nat.ne_of_lt (Nat.lt_of_lt_of_le (Nat.lt_of_lt_of_le A1.lt E2.1) lot10)) nin0))).keep K16 (ninS (Nat.ne_of_lt (Nat.lt_of_lt_of_le A1.lt lo2)) (ninS (Nat.ne_of_lt (Nat.lt_of_lt_of_le (Nat.lt_of_lt_of_le A1.lt E2.1) lot14)) nin0))).ext E17).keep K20 (ninS (Nat.ne_of_lt (Nat.lt_of_lt_of_le A1.lt lo2)) (ninS (Nat.ne_of_lt (Nat.lt_of_lt_of_le (Nat.lt_of_lt_of_le A1.lt E2.1) lot16)) nin0))).keep K21 nin0) (((((((((((F1_backtrace.ext E2).keep K4 (ninS (Nat.ne_of_lt (Nat.lt_of_lt_of_le A1.lt lo2)) nin0)).ext E5).keep K8 (ninS (Nat.ne_of_lt (Nat.lt_of_lt_of_le A1.lt lo2)) (ninS (Nat.ne_of_lt (Nat.lt_of_lt_of_le (Nat.lt_of_lt_of_le A1.lt E2.1) lo4)) nin0))).keep K10 (ninS (Nat.ne_of_lt (Nat.lt_of_lt_of_le A1.lt lo2)) (ninS (Nat.ne_of_lt (Nat.lt_of_lt_of_le (Nat.lt_of_lt_of_le A1.lt E2.1) lot8)) nin0))).ext E11).keep K14 (ninS (Nat.ne_of_lt (Nat.lt_of_lt_of_le A1.lt lo2)) (ninS (Nat.ne_of_lt (Nat.lt_of_lt_of_le (Nat.lt_of_lt_of_le A1.lt E2.1) lot10)) nin0))).keep K16 (ninS (Nat.ne_of_lt (Nat.lt_of_lt_of_le A1.lt lo2)) (ninS (Nat.ne_of_lt (Nat.lt_of_lt_of_le (Nat.lt_of_lt_of_le A1.lt E2.1) lot14)) nin0))).ext E17).keep K20 (ninS (Nat.ne_of_lt (Nat.lt_of_lt_of_le A1.lt lo2)) (ninS (Nat.ne_of_lt (Nat.lt_of_lt_of_le (Nat.lt_of_lt_of_le A1.lt E2.1) lot16)) nin0))).keep K21 nin0) (((((((((((F1_detailMessage.ext E2).keep K4 (ninS (Nat.ne_of_lt (Nat.lt_of_lt_of_le A1.lt lo2)) nin0)).ext E5).keep K8 (ninS (Nat.ne_of_lt (Nat.lt_of_lt_of_le A1.lt lo2)) (ninS (Nat.ne_of_lt (Nat.lt_of_lt_of_le (Nat.lt_of_lt_of_le A1.lt E2.1) lo4)) nin0))).keep K10 (ninS (Nat.ne_of_lt (Nat.lt_of_lt_of_le A1.lt lo2)) (ninS (Nat.ne_of_lt (Nat.lt_of_lt_of_le (Nat.lt_of_lt_of_le A1.lt E2.1) lot8)) nin0))).ext E11).keep K14 (ninS (Nat.ne_of_lt (Nat.lt_of_lt_of_le A1.lt lo2)) (ninS (Nat.ne_of_lt (Nat.lt_of_lt_of_le (Nat.lt_of_lt_of_le A1.lt E2.1) lot10)) nin0))).keep K16 (ninS (Nat.ne_of_lt (Nat.lt_of_lt_of_le A1.lt lo2)) (ninS (Nat.ne_of_lt (Nat.lt_of_lt_of_le (Nat.lt_of_lt_of_le A1.lt E2.1) lot14)) nin0))).ext E17).keep K20 (ninS (Nat.ne_of_lt (Nat.lt_of_lt_of_le A1.lt lo2)) (ninS (Nat.ne_of_lt (Nat.lt_of_lt_of_le (Nat.lt_of_lt_of_le A1.lt E2.1) lot16)) nin0))).keep K21 nin0) ge1 hl US hus SP hup) hZ17 (hw _ (List.mem_of_getElem? (i := 182) rfl)) (hw _ (List.mem_of_getElem? (i := 46) rfl)) (by decide) (by decide) (Vm.MethodsKnown.alikeC hS17.1.alike hTK) (Vm.FramesKnown.alikeC hS17.1.alike hBe)) c21 (lenOf pd_5 rfl) rfl (hb hby d8_40) rfl
  have N22 := Fr.app N21 N22'
  have R22 := CHr.keep K22 (sfS (((((((((((R2.trans R4).trans R5).trans R8).trans R10).trans R11).trans R14).trans R16).trans R17).trans R20).trans R21).safe A1.lt sf1) sf0) CR21.1
  have CR22 := CR21.trans R22
  have hk22 := Nat.le_trans hk21 R22.2.1
  have c22 : Steps p.tables e below S0 (T22.setTop (mkF m 43 #[.val (.ref xn), .val (.ref xk)] [(.ref b1)])) := c22'
  refine ⟨T22, T17.vm, _, (some (.ref b1)), _, _, _, X22, by decide, by decide, (fun q => by cases q), N22, hS17, hk22, hZ17, CR22, ?_, fun fs hr => ?_⟩
  · skip
    exact ⟨b1, x21, t21, kb21, rfl, ((((((((((((((Keep.refl h0 []).ext E1).ext E2).trans K4 (allS (Or.inr (Nat.le_trans ((Keep.refl h0 []).ext E1).1 lo2)) all0)).ext E5).trans K8 (allS (Or.inr (Nat.le_trans ((Keep.refl h0 []).ext E1).1 lo2)) (allS (Or.inr (Nat.le_trans (((Keep.refl h0 []).ext E1).ext E2).1 lo4)) all0))).trans K10 (allS (Or.inr (Nat.le_trans ((Keep.refl h0 []).ext E1).1 lo2)) (allS (Or.inr (Nat.le_trans (((Keep.refl h0 []).ext E1).ext E2).1 lot8)) all0))).ext E11).trans K14 (allS (Or.inr (Nat.le_trans ((Keep.refl h0 []).ext E1).1 lo2)) (allS (Or.inr (Nat.le_trans (((Keep.refl h0 []).ext E1).ext E2).1 lot10)) all0))).trans K16 (allS (Or.inr (Nat.le_trans ((Keep.refl h0 []).ext E1).1 lo2)) (allS (Or.inr (Nat.le_trans (((Keep.refl h0 []).ext E1).ext E2).1 lot14)) all0))).ext E17).trans K20 (allS (Or.inr (Nat.le_trans ((Keep.refl h0 []).ext E1).1 lo2)) (allS (Or.inr (Nat.le_trans (((Keep.refl h0 []).ext E1).ext E2).1 lot16)) all0))).trans K21 all0).trans K22 (allS (Or.inr (Nat.le_trans (Keep.refl h0 []).1 lo1)) all0)), (Nat.le_trans (Keep.refl h0 []).1 lo1), E22, U22, M22, C22, (E21.keep K22), (V21.keep K22 (ninS (Ne.symm (Nat.ne_of_lt (Nat.lt_of_lt_of_le (Nat.lt_of_lt_of_le A1.lt (Nat.le_trans (Nat.le_trans (Nat.le_trans (Nat.le_trans (Nat.le_trans (Nat.le_trans (Nat.le_trans (Nat.le_trans (Nat.le_trans E2.1 K4.1) E5.1) K8.1) K10.1) E11.1) K14.1) K16.1) E17.1) K20.1)) lo21))) nin0)), (Cd21.keep K22 (ninS (Ne.symm (Nat.ne_of_lt (Nat.lt_of_lt_of_le (Nat.lt_of_lt_of_le A1.lt (Nat.le_trans (Nat.le_trans (Nat.le_trans (Nat.le_trans (Nat.le_trans (Nat.le_trans (Nat.le_trans (Nat.le_trans (Nat.le_trans E2.1 K4.1) E5.1) K8.1) K10.1) E11.1) K14.1) K16.1) E17.1) K20.1)) lo21))) nin0)), (Kb21.keep K22 (ninS neT21 nin0))⟩
  · exact own_retR X22 hx c22 hret rfl rfl (hb hby d8_43) hr
set_option maxRecDepth 65536 in
set_option maxHeartbeats 40000000 in
theorem rmI4 (l : Launch) (Z : State) (a0 : Array Value) (hw : ∀ d ∈ tables_1, d.before a0 Z = true) (hEL : EW Z a0 EL) (x b : Addr) (u1 u2 : Value) (h0 : Heap) (O0 : Old Z Z.heap.size h0) (E : Exa Z h0 x "java/lang/String") (V : Fld Z h0 x "java/lang/String" "value" "[B" u1) (Cd : Fld Z h0 x "java/lang/String" "coder" "B" u2) (gx : Z.heap.size ≤ x) :
    own_WC l Z EL (⟨"java/lang/String", "<init>", "([CIILjava/lang/Void;)V"⟩ : MethodName) jdk_42_method_149_code 6 none ({ frames := 1, cells := 4, slots := 8, locals := 12 } : Room) #[(.ref x), (.ref b), (.int (0 : Int32)), (.int (0 : Int32)), .null] h0 [x] (fun v h => v = none ∧ Keep h0 h [x] ∧ Exa Z h x "java/lang/String" ∧ Fld Z h x "java/lang/String" "coder" "B" (.int (0 : Int32)) ∧ ∃ (t : Addr) (kt : ClassId), Fld Z h x "java/lang/String" "value" "[B" (.ref t) ∧ Arv Z h t kt .byte (0 : Int32) [] (.int (0 : Int32))) := by
  refine own_wc (plainFor_of_name (by first | (simp [plainName, overriddenIn]; done) | decide +kernel)) hEL ?_
  intro p e s m below meth c s₁ S0 X0 hx hby hml hret hnm hown hZ e0 hS0 CR0 hsf cc
  have N0 := Fr.nil Z.heap.size
  have hk0 : 0 ≤ h0.size := Nat.zero_le _
  have hstr : ∀ d ∈ Bundle.stringAtoms, d.before a0 Z = true := fun d hd => hw d (own_strA d hd)
  have c0 : Steps p.tables e below S0 (s₁.setTop (mkF m 0 #[.val (.ref x), .val (.ref b), .val (.int (0 : Int32)), .val (.int (0 : Int32)), .val .null, .unset] [])) := cc.trans (XT.entry rfl)
  obtain ⟨T1, X1, e1, st1⟩ := initO X0 hx hZ hown (hw _ (List.mem_of_getElem? (i := 23) rfl)) (hw _ (List.mem_of_getElem? (i := 24) rfl)) (hw _ (List.mem_of_getElem? (i := 25) rfl)) e0 (g := (mkF m 1 #[.val (.ref x), .val (.ref b), .val (.int (0 : Int32)), .val (.int (0 : Int32)), .val .null, .unset] [(.ref x)])) rfl (by rw [hml]; rfl) rfl (hb hby d3_1) (by decide) (W := 0) (by show 2 * 0 + _ ≤ _; exact Nat.le_of_eq rfl) (by decide)
  obtain ⟨la_2, T2, h2, kn2, lb_2, lk2, X2, e2, E2, hS2, hk2, hZ2, hown2, Ea2, Ca2, Va2, Kb2, la2, lb2, R2, Lt2, ne2, st2⟩ := ldcCH X1 hx hZ hown (hw _ (List.mem_of_getElem? (i := 26) rfl)) hstr e1 hS0 hk0 hEL (by decide) CR0.1 (vs := []) (z := (0 : Int32)) ⟨by decide, by decide⟩ (by decide) (by decide) (g := (mkF m 9 #[.val (.ref x), .val (.ref b), .val (.int (0 : Int32)), .val (.int (0 : Int32)), .val .null, .unset] [(.ref x)])) rfl (hb hby d3_9) (n := 0) (by decide) (by decide) (by decide) (by decide)
  have CR2 := CR0.trans R2
  obtain ⟨T3, X3, e3, st3⟩ := getF X2 hx hZ2 hown2 (host := "") (Or.inl (hw _ (List.mem_of_getElem? (i := 27) rfl))) Via.refl e2 Va2 (g := (mkF m 11 #[.val (.ref x), .val (.ref b), .val (.int (0 : Int32)), .val (.int (0 : Int32)), .val .null, .unset] [(.ref la_2), (.ref x)])) rfl rfl (hb hby d3_11)
  obtain ⟨T4, h4, X4, e4, W4, st4⟩ := putF X3 hx hZ2 hown2 (host := "") (Or.inl (hw _ (List.mem_of_getElem? (i := 27) rfl))) Via.refl e3 (V.ext E2) (E.ext E2) (Or.inr ⟨(hw _ (List.mem_of_getElem? (i := 4) rfl)), rfl, hnm⟩) (hw _ (List.mem_of_getElem? (i := 2) rfl)) (ty := (.array .byte)) (by decide) rfl rfl (g := (mkF m 14 #[.val (.ref x), .val (.ref b), .val (.int (0 : Int32)), .val (.int (0 : Int32)), .val .null, .unset] [(.ref lb_2), (.ref x)])) rfl rfl (hb hby d3_14)
  have N4 := Fr.snoc X4 N0 gx
  have Fw4 := (V.ext E2).same W4
  have R4 := CHr.wr W4 (R2.safe E.lt (hsf x (List.mem_cons_self ..))) CR2.1
  have CR4 := CR2.trans R4
  have hk4 := Nat.le_trans hk2 R4.2.1
  obtain ⟨la_5, T5, h5, kn5, lb_5, lk5, X5, e5, E5, hS5, hk5, hZ5, hown5, Ea5, Ca5, Va5, Kb5, la5, lb5, R5, Lt5, ne5, st5⟩ := ldcCH X4 hx hZ2 hown2 (hw _ (List.mem_of_getElem? (i := 26) rfl)) hstr e4 hS2 hk4 hEL (by decide) CR4.1 (vs := []) (z := (0 : Int32)) ⟨by decide, by decide⟩ (by decide) (by decide) (g := (mkF m 18 #[.val (.ref x), .val (.ref b), .val (.int (0 : Int32)), .val (.int (0 : Int32)), .val .null, .unset] [(.ref x)])) rfl (hb hby d3_18) (n := 0) (by decide) (by decide) (by decide) (by decide)
  have CR5 := CR4.trans R5
  obtain ⟨T6, X6, e6, st6⟩ := getF X5 hx hZ5 hown5 (host := "") (Or.inl (hw _ (List.mem_of_getElem? (i := 28) rfl))) Via.refl e5 Ca5 (g := (mkF m 20 #[.val (.ref x), .val (.ref b), .val (.int (0 : Int32)), .val (.int (0 : Int32)), .val .null, .unset] [(.ref la_5), (.ref x)])) rfl rfl (hb hby d3_20)
  obtain ⟨T7, h7, X7, e7, W7, st7⟩ := putFN X6 hx hZ5 hown5 (hw _ (List.mem_of_getElem? (i := 28) rfl)) Via.refl e6 (((Cd.ext E2).other W4 (Or.inr (slot_ne (Or.inr (hw _ (List.mem_of_getElem? (i := 5) rfl))) (Or.inr (hw _ (List.mem_of_getElem? (i := 4) rfl))) (by decide) (t := .byte) (t' := (.array .byte)) (by decide) (by decide)))).ext E5) (((E.ext E2).wr W4).ext E5) (Or.inr ⟨(hw _ (List.mem_of_getElem? (i := 5) rfl)), rfl, hnm⟩) (hw _ (List.mem_of_getElem? (i := 2) rfl)) (ty := .byte) (v' := (.int (0 : Int32))) (by decide) rfl rfl (g := (mkF m 23 #[.val (.ref x), .val (.ref b), .val (.int (0 : Int32)), .val (.int (0 : Int32)), .val .null, .unset] [(.int (0 : Int32)), (.ref x)])) rfl rfl (hb hby d3_23)
  have N7 := Fr.snoc X7 N4 gx
  have Fw7 := (((Cd.ext E2).other W4 (Or.inr (slot_ne (Or.inr (hw _ (List.mem_of_getElem? (i := 5) rfl))) (Or.inr (hw _ (List.mem_of_getElem? (i := 4) rfl))) (by decide) (t := .byte) (t' := (.array .byte)) (by decide) (by decide)))).ext E5).same W7
  have R7 := CHr.wr W7 (((R2.trans R4).trans R5).safe E.lt (hsf x (List.mem_cons_self ..))) CR5.1
  have CR7 := CR5.trans R7
  have hk7 := Nat.le_trans hk5 R7.2.1
  have c8 : Steps p.tables e below S0 (T7.setTop (mkF m 26 #[.val (.ref x), .val (.ref b), .val (.int (0 : Int32)), .val (.int (0 : Int32)), .val .null, .unset] [])) := c0.trans (by
    refine XS.aloadN X0.here hx rfl (hb hby d3_0) rfl rfl ?_
    refine st1 _ ?_
    refine XS.iloadN X1.here hx rfl (hb hby d3_4) rfl ?_
    refine XS.ifNo X1.here hx rfl (hb hby d3_5) rfl ((if0 _ _).trans (teq (by decide : (0 : Int32) = (0 : Int32))).2) ?_
    refine XS.aloadN X1.here hx rfl (hb hby d3_8) rfl rfl ?_
    refine st2 _ ?_
    show Steps p.tables e below (T2.setTop (mkF m 11 #[.val (.ref x), .val (.ref b), .val (.int (0 : Int32)), .val (.int (0 : Int32)), .val .null, .unset] [(.ref la_2), (.ref x)])) _
    refine st3 _ ?_
    refine st4 _ ?_
    refine XS.aloadN X4.here hx rfl (hb hby d3_17) rfl rfl ?_
    refine st5 _ ?_
    show Steps p.tables e below (T5.setTop (mkF m 20 #[.val (.ref x), .val (.ref b), .val (.int (0 : Int32)), .val (.int (0 : Int32)), .val .null, .unset] [(.ref la_5), (.ref x)])) _
    refine st6 _ ?_
    refine st7 _ ?_
    exact Steps.refl _)
  refine ⟨T7, T5.vm, _, none, _, _, _, X7, by decide, by decide, (fun _ => rfl), N7, hS5, by rw [e7]; exact hk7, hZ5, by rw [e7]; exact CR7, ?_, fun fs hr => ?_⟩
  · rw [e7]
    exact ⟨rfl, (((((Keep.refl h0 [x]).ext E2).wr W4 (Or.inl (List.mem_of_getElem? (i := 0) rfl))).ext E5).wr W7 (Or.inl (List.mem_of_getElem? (i := 0) rfl))), ((((E.ext E2).wr W4).ext E5).wr W7), Fw7, lb_2, lk2, ((Fw4.ext E5).other W7 (Or.inr (slot_ne (Or.inr (hw _ (List.mem_of_getElem? (i := 4) rfl))) (Or.inr (hw _ (List.mem_of_getElem? (i := 5) rfl))) (by decide) (t := (.array .byte)) (t' := .byte) (by decide) (by decide)))), (((Kb2.other W4 (Ne.symm (ne2 x (R2.safe E.lt (hsf x (List.mem_cons_self ..)))).2)).ext E5).other W7 (Ne.symm (ne2 x (R2.safe E.lt (hsf x (List.mem_cons_self ..)))).2))⟩
  · exact c8.trans (X7.returnOut hx hret (hb hby d3_26) hr)
set_option maxRecDepth 65536 in
set_option maxHeartbeats 40000000 in
theorem rmI1 (l : Launch) (Z : State) (a0 : Array Value) (hw : ∀ d ∈ tables_1, d.before a0 Z = true) (hEL : EW Z a0 EL) (x b : Addr) (kc : ClassId) (u1 u2 : Value) (h0 : Heap) (O0 : Old Z Z.heap.size h0) (E : Exa Z h0 x "java/lang/String") (V : Fld Z h0 x "java/lang/String" "value" "[B" u1) (Cd : Fld Z h0 x "java/lang/String" "coder" "B" u2) (gx : Z.heap.size ≤ x) (Kc : Arv Z h0 b kc .char (0 : Int32) [] (.int (0 : Int32))) :
    own_WC l Z EL (⟨"java/lang/String", "<init>", "([C)V"⟩ : MethodName) jdk_42_method_3_code 2 none ({ frames := 2, cells := 4, slots := 8, locals := 30 } : Room) #[(.ref x), (.ref b)] h0 [x] (fun v h => v = none ∧ Keep h0 h [x] ∧ Exa Z h x "java/lang/String" ∧ Fld Z h x "java/lang/String" "coder" "B" (.int (0 : Int32)) ∧ ∃ (t : Addr) (kt : ClassId), Fld Z h x "java/lang/String" "value" "[B" (.ref t) ∧ Arv Z h t kt .byte (0 : Int32) [] (.int (0 : Int32))) := by
  refine own_wc (plainFor_of_name (by first | (simp [plainName, overriddenIn]; done) | decide +kernel)) hEL ?_
  intro p e s m below meth c s₁ S0 X0 hx hby hml hret hnm hown hZ e0 hS0 CR0 hsf cc
  have N0 := Fr.nil Z.heap.size
  have hk0 : 0 ≤ h0.size := Nat.zero_le _
  have hstr : ∀ d ∈ Bundle.stringAtoms, d.before a0 Z = true := fun d hd => hw d (own_strA d hd)
  have c0 : Steps p.tables e below S0 (s₁.setTop (mkF m 0 #[.val (.ref x), .val (.ref b)] [])) := cc.trans (XT.entry rfl)
  obtain ⟨cl1, Ar1, q1, S1, M1, H1, G1⟩ := id Kc
  have c2 : Steps p.tables e below S0 (s₁.setTop (mkF m 6 #[.val (.ref x), .val (.ref b)] [.null, (.int (0 : Int32)), (.int (0 : Int32)), (.ref b), (.ref x)])) := c0.trans (by
    refine XS.aloadN X0.here hx rfl (hb hby d2_0) rfl rfl ?_
    refine XS.aloadN X0.here hx rfl (hb hby d2_1) rfl rfl ?_
    refine XS.iconst X0.here hx rfl (hb hby d2_2) ?_
    refine XS.aloadN X0.here hx rfl (hb hby d2_3) rfl rfl ?_
    refine X0.arraylength hx (by rw [show s₁.heap = h0 from e0]; exact Ar1.1) (State.isArrayOf_alike (hZ).alike Ar1.2.1) (g := (mkF m 4 #[.val (.ref x), .val (.ref b)] [(.ref b), (.int (0 : Int32)), (.ref b), (.ref x)])) rfl rfl (hb hby d2_4) _ ?_
    rw [len_of S1 M1]
    refine XS.aconstNull X0.here hx rfl (hb hby d2_5) ?_
    exact Steps.refl _)
  obtain ⟨v3, T3, L3, X3, hS3, hZ3, hown3, R3, ⟨N3', rfl, K3, E3, Cd3, t3, kt3, V3, Kt3⟩, c3'⟩ := own_wspec X0 hx hml hZ hown hS0 hk0 rfl (hw _ (List.mem_of_getElem? (i := 19) rfl)) (hw _ (List.mem_of_getElem? (i := 20) rfl)) (hw _ (List.mem_of_getElem? (i := 22) rfl)) (by decide) (kc := 4) (ks := 8) (h := h0) (W := 0) (b := x) (argsL := [(.ref b), (.int (0 : Int32)), (.int (0 : Int32)), .null]) (rest := []) (own_wpay (W := 0) (rmI4 l Z a0 hw hEL x b u1 u2 h0 O0 E V Cd gx) hZ (hw _ (List.mem_of_getElem? (i := 22) rfl)) (hw _ (List.mem_of_getElem? (i := 1) rfl)) (by decide) (by decide) hEL CR0.1 (allS ⟨E.lt, (hsf x (List.mem_cons_self ..))⟩ all0)) c2 (lenOf pd_19 rfl) rfl (hb hby d2_6) e0
  have N3 := Fr.app N0 N3'
  have CR3 := CR0.trans R3
  have c3 : Steps p.tables e below S0 (T3.setTop (mkF m 9 #[.val (.ref x), .val (.ref b)] [])) := c3'
  refine ⟨T3, T3.vm, _, none, _, _, _, X3, by decide, by decide, (fun _ => rfl), N3, hS3, (Nat.le_refl _), hZ3, CR3, ?_, fun fs hr => ?_⟩
  · skip
    exact ⟨rfl, K3, E3, Cd3, t3, kt3, V3, Kt3⟩
  · exact c3.trans (X3.returnOut hx hret (hb hby d2_9) hr)
set_option maxRecDepth 65536 in
set_option maxHeartbeats 40000000 in
theorem rmStr (l : Launch) (Z : State) (a0 : Array Value) (hw : ∀ d ∈ tables_1, d.before a0 Z = true) (hEL : EW Z a0 EL) (i0 : Int32) (z : Int32) (fm : Value) (h0 : Heap) (O0 : Old Z Z.heap.size h0) (SC : Sta Z Z.heap "java/lang/String" "COMPACT_STRINGS" "Z" (.int z)) (hz : ¬ z = 0) (SF : Sta Z Z.heap "jdk/internal/util/Preconditions" "SIOOBE_FORMATTER" "Ljava/util/function/BiFunction;" fm) (hfm : fm.isRef = true) :
    own_WC l Z EL (⟨"com/example/breakwater/breakwater/InFlightLoadsAskedForOwnKeyPinLaw", "str", "(I)Ljava/lang/String;"⟩ : MethodName) method_2_code 5 (some (.object "java/lang/String")) ({ frames := 7, cells := 6, slots := 40, locals := 110 } : Room) #[(.int i0)] h0 [] (fun v h => ∃ cs : List Int32, cs.length ≤ 3 ∧ (∀ c ∈ cs, own_B c) ∧ (∃ (x t : Addr) (kb : ClassId), v = some (.ref x) ∧ Keep h0 h [] ∧ h0.size ≤ x ∧ Exa Z h x "java/lang/String" ∧ Fld Z h x "java/lang/String" "value" "[B" (.ref t) ∧ Fld Z h x "java/lang/String" "coder" "B" (.int (0 : Int32)) ∧ Arv Z h t kb .byte (Int32.ofNat (cs : List Int32).length) (((cs : List Int32).map (fun c : Int32 => c.toInt8.toInt32)).map Value.int) (.int (0 : Int32)))) := by
  refine own_wc (plainFor_of_name (by first | (simp [plainName, overriddenIn]; done) | decide +kernel)) hEL ?_
  intro p e s m below meth c s₁ S0 X0 hx hby hml hret hnm hown hZ e0 hS0 CR0 hsf cc
  have N0 := Fr.nil Z.heap.size
  have hk0 : 0 ≤ h0.size := Nat.zero_le _
  have hstr : ∀ d ∈ Bundle.stringAtoms, d.before a0 Z = true := fun d hd => hw d (own_strA d hd)
  have c0 : Steps p.tables e below S0 (s₁.setTop (mkF m 0 #[.val (.int i0), .unset, .unset, .unset, .unset] [])) := cc.trans (XT.entry rfl)
  have c1 : Steps p.tables e below S0 (s₁.setTop (mkF m 12 #[.val (.int i0), .val (.int (i0 &&& (3 : Int32))), .unset, .unset, .unset] [(.int ((((i0.toUInt32 >>> ((2 : Int32) &&& 31).toUInt32).toInt32) &&& (255 : Int32)).toUInt32.toUInt16.toUInt32.toInt32))])) := c0.trans (by
    refine XS.iloadN X0.here hx rfl (hb hby d1_0) rfl ?_
    refine XS.iconst X0.here hx rfl (hb hby d1_1) ?_
    refine XS.iand X0.here hx rfl (hb hby d1_2) rfl ?_
    refine XS.istoreN X0.here hx rfl (hb hby d1_3) rfl (l' := #[.val (.int i0), .val (.int (i0 &&& (3 : Int32))), .unset, .unset, .unset]) rfl ?_
    refine XS.iloadN X0.here hx rfl (hb hby d1_4) rfl ?_
    refine XS.iconst X0.here hx rfl (hb hby d1_5) ?_
    refine XS.iushr X0.here hx rfl (hb hby d1_6) rfl ?_
    refine XS.sipush X0.here hx rfl (hb hby d1_7) ?_
    refine XS.iand X0.here hx rfl (hb hby d1_10) rfl ?_
    show Steps p.tables e below (s₁.setTop (mkF m 11 #[.val (.int i0), .val (.int (i0 &&& (3 : Int32))), .unset, .unset, .unset] [(.int (((i0.toUInt32 >>> ((2 : Int32) &&& 31).toUInt32).toInt32) &&& (255 : Int32)))])) _
    refine XS.i2c X0.here hx rfl (hb hby d1_11) rfl ?_
    exact Steps.refl _)
  obtain ⟨j2, hB2, eq2⟩ := own_bI ((i0.toUInt32 >>> ((2 : Int32) &&& 31).toUInt32).toInt32)
  have c2 : Steps p.tables e below S0 (s₁.setTop (mkF m 12 #[.val (.int i0), .val (.int (i0 &&& (3 : Int32))), .unset, .unset, .unset] [(.int j2)])) := by rw [← eq2]; exact c1
  have c3 : Steps p.tables e below S0 (s₁.setTop (mkF m 22 #[.val (.int i0), .val (.int (i0 &&& (3 : Int32))), .val (.int j2), .unset, .unset] [(.int ((((i0.toUInt32 >>> ((10 : Int32) &&& 31).toUInt32).toInt32) &&& (255 : Int32)).toUInt32.toUInt16.toUInt32.toInt32))])) := c2.trans (by
    refine XS.istoreN X0.here hx rfl (hb hby d1_12) rfl (l' := #[.val (.int i0), .val (.int (i0 &&& (3 : Int32))), .val (.int j2), .unset, .unset]) rfl ?_
    refine XS.iloadN X0.here hx rfl (hb hby d1_13) rfl ?_
    refine XS.bipush X0.here hx rfl (hb hby d1_14) ?_
    refine XS.iushr X0.here hx rfl (hb hby d1_16) rfl ?_
    refine XS.sipush X0.here hx rfl (hb hby d1_17) ?_
    refine XS.iand X0.here hx rfl (hb hby d1_20) rfl ?_
    refine XS.i2c X0.here hx rfl (hb hby d1_21) rfl ?_
    exact Steps.refl _)
  obtain ⟨j4, hB4, eq4⟩ := own_bI ((i0.toUInt32 >>> ((10 : Int32) &&& 31).toUInt32).toInt32)
  have c4 : Steps p.tables e below S0 (s₁.setTop (mkF m 22 #[.val (.int i0), .val (.int (i0 &&& (3 : Int32))), .val (.int j2), .unset, .unset] [(.int j4)])) := by rw [← eq4]; exact c3
  have c5 : Steps p.tables e below S0 (s₁.setTop (mkF m 32 #[.val (.int i0), .val (.int (i0 &&& (3 : Int32))), .val (.int j2), .val (.int j4), .unset] [(.int ((((i0.toUInt32 >>> ((18 : Int32) &&& 31).toUInt32).toInt32) &&& (255 : Int32)).toUInt32.toUInt16.toUInt32.toInt32))])) := c4.trans (by
    refine XS.istoreN X0.here hx rfl (hb hby d1_22) rfl (l' := #[.val (.int i0), .val (.int (i0 &&& (3 : Int32))), .val (.int j2), .val (.int j4), .unset]) rfl ?_
    refine XS.iloadN X0.here hx rfl (hb hby d1_23) rfl ?_
    refine XS.bipush X0.here hx rfl (hb hby d1_24) ?_
    refine XS.iushr X0.here hx rfl (hb hby d1_26) rfl ?_
    refine XS.sipush X0.here hx rfl (hb hby d1_27) ?_
    refine XS.iand X0.here hx rfl (hb hby d1_30) rfl ?_
    refine XS.i2c X0.here hx rfl (hb hby d1_31) rfl ?_
    exact Steps.refl _)
  obtain ⟨j6, hB6, eq6⟩ := own_bI ((i0.toUInt32 >>> ((18 : Int32) &&& 31).toUInt32).toInt32)
  have c6 : Steps p.tables e below S0 (s₁.setTop (mkF m 32 #[.val (.int i0), .val (.int (i0 &&& (3 : Int32))), .val (.int j2), .val (.int j4), .unset] [(.int j6)])) := by rw [← eq6]; exact c5
  have c7 : Steps p.tables e below S0 (s₁.setTop (mkF m 35 #[.val (.int i0), .val (.int (i0 &&& (3 : Int32))), .val (.int j2), .val (.int j4), .val (.int j6)] [(.int (i0 &&& (3 : Int32)))])) := c6.trans (by
    refine XS.istore X0.here hx rfl (hb hby d1_32) rfl (l' := #[.val (.int i0), .val (.int (i0 &&& (3 : Int32))), .val (.int j2), .val (.int j4), .val (.int j6)]) rfl ?_
    refine XS.iloadN X0.here hx rfl (hb hby d1_34) rfl ?_
    exact Steps.refl _)
  by_cases hc8 : (i0 &&& (3 : Int32)) = (0 : Int32)
  · skip
    obtain ⟨T9, h9, X9, e9, E9, A9, D9, U9, st9⟩ := newO X0 hx hZ hown (hw _ (List.mem_of_getElem? (i := 14) rfl)) (hw _ (List.mem_of_getElem? (i := 2) rfl)) (hw _ (List.mem_of_getElem? (i := 1) rfl)) e0 (g := (mkF m 38 #[.val (.int i0), .val (.int (i0 &&& (3 : Int32))), .val (.int j2), .val (.int j4), .val (.int j6)] [])) rfl (hb hby d1_38) (by decide) (by decide)
    obtain ⟨b9, g9⟩ : ∃ z, z = h0.size := ⟨_, rfl⟩
    rw [← g9] at A9 D9 U9 st9
    have lo9 : h0.size ≤ b9 := Nat.le_of_eq g9.symm
    have ge9 : Z.heap.size ≤ b9 := Nat.le_trans O0.2.1 lo9
    have R9 := CHr.ext (EL := EL) E9 CR0.1
    have sf9 := Safe.ext E9 CR0.1 (Safe.new lo9)
    have CR9 := CR0.trans R9
    have hk9 := Nat.le_trans hk0 R9.2.1
    have U9 : Unt h9 b9 := U9
    have F9_value : Fld Z h9 b9 "java/lang/String" "value" "[B" .null := D9 (Or.inr (hw _ (List.mem_of_getElem? (i := 4) rfl))) (ty := (.array .byte)) (by decide)
    have F9_coder : Fld Z h9 b9 "java/lang/String" "coder" "B" (.int (0 : Int32)) := D9 (Or.inr (hw _ (List.mem_of_getElem? (i := 5) rfl))) (ty := .byte) (by decide)
    obtain ⟨T10, h10, k10, X10, e10, E10, A10, st10⟩ := newP X9 hx hZ (hw _ (List.mem_of_getElem? (i := 15) rfl)) e9 (g := (mkF m 43 #[.val (.int i0), .val (.int (i0 &&& (3 : Int32))), .val (.int j2), .val (.int j4), .val (.int j6)] [(.int (0 : Int32)), (.ref b9), (.ref b9)])) rfl (hb hby d1_43) rfl (by decide) (cap := 0) (by decide) (by decide) (by decide) (by decide)
    obtain ⟨b10, g10⟩ : ∃ z, z = h9.size := ⟨_, rfl⟩
    rw [← g10] at A10 st10
    have lo10 : h9.size ≤ b10 := Nat.le_of_eq g10.symm
    have ge10 : Z.heap.size ≤ b10 := Nat.le_trans (O0.ext E9).2.1 lo10
    have R10 := CHr.ext (EL := EL) E10 CR9.1
    have sf10 := Safe.ext E10 CR9.1 (Safe.new lo10)
    have CR10 := CR9.trans R10
    have hk10 := Nat.le_trans hk9 R10.2.1
    have V10 := Arv.new A10 (by decide)
    have c11 : Steps p.tables e below S0 (T10.setTop (mkF m 45 #[.val (.int i0), .val (.int (i0 &&& (3 : Int32))), .val (.int j2), .val (.int j4), .val (.int j6)] [(.ref b10), (.ref b9), (.ref b9)])) := c7.trans (by
      refine XS.ifNo X0.here hx rfl (hb hby d1_35) rfl ((if0 _ _).trans (teq hc8).2) ?_
      refine st9 _ ?_
      refine XS.dup X9.here hx rfl (hb hby d1_41) rfl rfl ?_
      refine XS.iconst X9.here hx rfl (hb hby d1_42) ?_
      refine st10 _ ?_
      show Steps p.tables e below (T10.setTop (mkF m 45 #[.val (.int i0), .val (.int (i0 &&& (3 : Int32))), .val (.int j2), .val (.int j4), .val (.int j6)] [(.ref b10), (.ref b9), (.ref b9)])) _
      exact Steps.refl _)
    obtain ⟨v12, T12, L12, X12, hS12, hZ12, hown12, R12, ⟨N12', rfl, K12, E12, Cd12, t12, kt12, V12, Kt12⟩, c12'⟩ := own_wspec X10 hx hml hZ hown hS0 hk10 rfl (hw _ (List.mem_of_getElem? (i := 16) rfl)) (hw _ (List.mem_of_getElem? (i := 17) rfl)) (hw _ (List.mem_of_getElem? (i := 18) rfl)) (by decide) (kc := 4) (ks := 8) (h := h10) (W := 1) (b := b9) (argsL := [(.ref b10)]) (rest := [(.ref b9)]) (own_wpay (W := 1) (rmI1 l Z a0 hw hEL b9 b10 k10 _ _ h10 ((O0.ext E9).ext E10) (A9.ext E10) (F9_value.ext E10) (F9_coder.ext E10) ge9 V10) hZ (hw _ (List.mem_of_getElem? (i := 18) rfl)) (hw _ (List.mem_of_getElem? (i := 1) rfl)) (by decide) (by decide) hEL CR10.1 (allS ⟨(A9.ext E10).lt, (R10.safe A9.lt sf9)⟩ all0)) c11 (lenOf pd_20 rfl) rfl (hb hby d1_45) e10
    have N12 := Fr.app N0 N12'
    have CR12 := CR10.trans R12
    have c12 : Steps p.tables e below S0 (T12.setTop (mkF m 48 #[.val (.int i0), .val (.int (i0 &&& (3 : Int32))), .val (.int j2), .val (.int j4), .val (.int j6)] [(.ref b9)])) := c12'
    refine ⟨T12, T12.vm, _, (some (.ref b9)), _, _, _, X12, by decide, by decide, (fun q => by cases q), N12, hS12, (Nat.le_refl _), hZ12, CR12, ?_, fun fs hr => ?_⟩
    · skip
      exact ⟨[], (by simp), own_nil, b9, t12, kt12, rfl, ((((Keep.refl h0 []).ext E9).ext E10).trans K12 (allS (Or.inr (Nat.le_trans (Keep.refl h0 []).1 lo9)) all0)), (Nat.le_trans (Keep.refl h0 []).1 lo9), E12, V12, Cd12, Kt12⟩
    · exact own_retR X12 hx c12 hret rfl rfl (hb hby d1_48) hr
  · skip
    have c14 : Steps p.tables e below S0 (s₁.setTop (mkF m 51 #[.val (.int i0), .val (.int (i0 &&& (3 : Int32))), .val (.int j2), .val (.int j4), .val (.int j6)] [(.int (1 : Int32)), (.int (i0 &&& (3 : Int32)))])) := c7.trans (by
      refine XS.ifYes X0.here hx rfl (pc0 := 35) (pc' := 49) rfl (hb hby d1_35) rfl ((if0 _ _).trans (feq hc8).2) (by decide) (by decide) ?_
      refine XS.iloadN X0.here hx rfl (hb hby d1_49) rfl ?_
      refine XS.iconst X0.here hx rfl (hb hby d1_50) ?_
      exact Steps.refl _)
    by_cases hc15 : (i0 &&& (3 : Int32)) = (1 : Int32)
    · skip
      obtain ⟨T16, h16, X16, e16, E16, A16, D16, U16, st16⟩ := newO X0 hx hZ hown (hw _ (List.mem_of_getElem? (i := 14) rfl)) (hw _ (List.mem_of_getElem? (i := 2) rfl)) (hw _ (List.mem_of_getElem? (i := 1) rfl)) e0 (g := (mkF m 54 #[.val (.int i0), .val (.int (i0 &&& (3 : Int32))), .val (.int j2), .val (.int j4), .val (.int j6)] [])) rfl (hb hby d1_54) (by decide) (by decide)
      obtain ⟨b16, g16⟩ : ∃ z, z = h0.size := ⟨_, rfl⟩
      rw [← g16] at A16 D16 U16 st16
      have lo16 : h0.size ≤ b16 := Nat.le_of_eq g16.symm
      have ge16 : Z.heap.size ≤ b16 := Nat.le_trans O0.2.1 lo16
      have R16 := CHr.ext (EL := EL) E16 CR0.1
      have sf16 := Safe.ext E16 CR0.1 (Safe.new lo16)
      have CR16 := CR0.trans R16
      have hk16 := Nat.le_trans hk0 R16.2.1
      have U16 : Unt h16 b16 := U16
      have F16_value : Fld Z h16 b16 "java/lang/String" "value" "[B" .null := D16 (Or.inr (hw _ (List.mem_of_getElem? (i := 4) rfl))) (ty := (.array .byte)) (by decide)
      have F16_coder : Fld Z h16 b16 "java/lang/String" "coder" "B" (.int (0 : Int32)) := D16 (Or.inr (hw _ (List.mem_of_getElem? (i := 5) rfl))) (ty := .byte) (by decide)
      obtain ⟨T17, h17, k17, X17, e17, E17, A17, st17⟩ := newP X16 hx hZ (hw _ (List.mem_of_getElem? (i := 15) rfl)) e16 (g := (mkF m 59 #[.val (.int i0), .val (.int (i0 &&& (3 : Int32))), .val (.int j2), .val (.int j4), .val (.int j6)] [(.int (1 : Int32)), (.ref b16), (.ref b16)])) rfl (hb hby d1_59) rfl (by decide) (cap := 1) (by decide) (by decide) (by decide) (by decide)
      obtain ⟨b17, g17⟩ : ∃ z, z = h16.size := ⟨_, rfl⟩
      rw [← g17] at A17 st17
      have lo17 : h16.size ≤ b17 := Nat.le_of_eq g17.symm
      have ge17 : Z.heap.size ≤ b17 := Nat.le_trans (O0.ext E16).2.1 lo17
      have R17 := CHr.ext (EL := EL) E17 CR16.1
      have sf17 := Safe.ext E17 CR16.1 (Safe.new lo17)
      have CR17 := CR16.trans R17
      have hk17 := Nat.le_trans hk16 R17.2.1
      have V17 := Arv.new A17 (by decide)
      have V17a : Arv Z h17 b17 k17 .char (1 : Int32) [(.int (0 : Int32))] (.int (0 : Int32)) := V17.pad (pad_rep [] (.int (0 : Int32)) 1)
      obtain ⟨cl18, Ar18, q18, S18, M18, H18, G18⟩ := id V17a
      have hin18 : ¬ ((0 : Int32) < 0 ∨ cl18.slots.size ≤ ((0 : Int32)).toNatClampNeg) := inb_of S18 ⟨by decide, by decide⟩
      obtain ⟨T18, h18, X18, e18, W18, st18⟩ := stC X17 hx hZ e17 Ar18 (j := (0 : Int32)) hin18 (g := (mkF m 64 #[.val (.int i0), .val (.int (i0 &&& (3 : Int32))), .val (.int j2), .val (.int j4), .val (.int j6)] [(.int j2), (.int (0 : Int32)), (.ref b17), (.ref b17), (.ref b16), (.ref b16)])) rfl rfl (hb hby d1_64)
      have V18 := Arv.set Ar18 q18 S18 M18 H18 G18 (fits_nar_char _) W18 0 rfl (Nat.le_of_ble_eq_true rfl)
      have N18 := Fr.snoc X18 N0 ge17
      have R18 := CHr.wr W18 sf17 CR17.1
      have CR18 := CR17.trans R18
      have hk18 := Nat.le_trans hk17 R18.2.1
      rw [hB2.nar] at V18
      have V18a : Arv Z h18 b17 k17 .char (1 : Int32) [(.int j2)] (.int (0 : Int32)) := V18
      have c19 : Steps p.tables e below S0 (T18.setTop (mkF m 65 #[.val (.int i0), .val (.int (i0 &&& (3 : Int32))), .val (.int j2), .val (.int j4), .val (.int j6)] [(.ref b17), (.ref b16), (.ref b16)])) := c14.trans (by
        refine XS.icmpNo X0.here hx rfl (hb hby d1_51) rfl (teq hc15).2 ?_
        refine st16 _ ?_
        refine XS.dup X16.here hx rfl (hb hby d1_57) rfl rfl ?_
        refine XS.iconst X16.here hx rfl (hb hby d1_58) ?_
        refine st17 _ ?_
        show Steps p.tables e below (T17.setTop (mkF m 61 #[.val (.int i0), .val (.int (i0 &&& (3 : Int32))), .val (.int j2), .val (.int j4), .val (.int j6)] [(.ref b17), (.ref b16), (.ref b16)])) _
        refine XS.dup X17.here hx rfl (hb hby d1_61) rfl rfl ?_
        refine XS.iconst X17.here hx rfl (hb hby d1_62) ?_
        refine XS.iloadN X17.here hx rfl (hb hby d1_63) rfl ?_
        refine st18 _ ?_
        show Steps p.tables e below (T18.setTop (mkF m 65 #[.val (.int i0), .val (.int (i0 &&& (3 : Int32))), .val (.int j2), .val (.int j4), .val (.int j6)] [(.ref b17), (.ref b16), (.ref b16)])) _
        exact Steps.refl _)
      obtain ⟨v20, T20, L20, X20, ⟨rfl, N20', K20, E20, Cd20, t20, kb20, gt20, lo20, ne20, V20, Kb20⟩, c20'⟩ := own_spec X18 hx hml hZ hown rfl (hw _ (List.mem_of_getElem? (i := 16) rfl)) (hw _ (List.mem_of_getElem? (i := 17) rfl)) (hw _ (List.mem_of_getElem? (i := 18) rfl)) (by decide) (Q := StrChars.Road.QV Z b16 (1 : Int32) (([j2] : List Int32).map (fun c : Int32 => c.toInt8.toInt32)) h18 Z.heap.size) (kc := 1) (ks := 1) (h := h18) (W := 1) (b := b16) (argsL := [(.ref b17)]) (rest := [(.ref b16)]) (StrChars.Road.backV (s := (s.setVm s.vm)) (R := ({ frames := 7, cells := 6, slots := 40, locals := 110 } : Room)) (W := 1) hZ (own_wi hw) (kI := 4) (hw _ (List.mem_of_getElem? (i := 2) rfl)) (cs := [j2]) (bs := ([j2] : List Int32).map (fun c : Int32 => c.toInt8.toInt32)) (n := 1) ge16 (((O0.ext E16).ext E17).wr W18 ge17).2.1 ((A16.ext E17).wr W18) ((F16_value.ext E17).other W18 (Or.inl (Nat.ne_of_lt (Nat.lt_of_lt_of_le A16.lt lo17)))) ((F16_coder.ext E17).other W18 (Or.inl (Nat.ne_of_lt (Nat.lt_of_lt_of_le A16.lt lo17)))) V18a (SC.ext (((O0.ext E16).ext E17).wr W18 ge17).2) hz rfl rfl (by decide) (by decide) (fun c hc => ((own_cons hB2 own_nil) c hc).rng) rfl (by decide) (by decide)) c19 (lenOf pd_20 rfl) rfl (hb hby d1_65) e18
      have N20 := Fr.app N18 N20'
      have R20 := CHr.keep K20 (sfS ((R17.trans R18).safe A16.lt sf16) sf0) CR18.1
      have CR20 := CR18.trans R20
      have hk20 := Nat.le_trans hk18 R20.2.1
      have c20 : Steps p.tables e below S0 (T20.setTop (mkF m 68 #[.val (.int i0), .val (.int (i0 &&& (3 : Int32))), .val (.int j2), .val (.int j4), .val (.int j6)] [(.ref b16)])) := c20'
      refine ⟨T20, s.vm, _, (some (.ref b16)), _, _, _, X20, by decide, by decide, (fun q => by cases q), N20, hS0, hk20, hZ, CR20, ?_, fun fs hr => ?_⟩
      · skip
        exact ⟨[j2], (by simp), (own_cons hB2 own_nil), b16, t20, kb20, rfl, (((((Keep.refl h0 []).ext E16).ext E17).wr W18 (Or.inr (Nat.le_trans ((Keep.refl h0 []).ext E16).1 lo17))).trans K20 (allS (Or.inr (Nat.le_trans (Keep.refl h0 []).1 lo16)) all0)), (Nat.le_trans (Keep.refl h0 []).1 lo16), E20, V20, Cd20, Kb20⟩
      · exact own_retR X20 hx c20 hret rfl rfl (hb hby d1_68) hr
    · skip
      have c22 : Steps p.tables e below S0 (s₁.setTop (mkF m 71 #[.val (.int i0), .val (.int (i0 &&& (3 : Int32))), .val (.int j2), .val (.int j4), .val (.int j6)] [(.int (2 : Int32)), (.int (i0 &&& (3 : Int32)))])) := c14.trans (by
        refine XS.icmpYes X0.here hx rfl (pc0 := 51) (pc' := 69) rfl (hb hby d1_51) rfl (feq hc15).2 (by decide) (by decide) ?_
        refine XS.iloadN X0.here hx rfl (hb hby d1_69) rfl ?_
        refine XS.iconst X0.here hx rfl (hb hby d1_70) ?_
        exact Steps.refl _)
      by_cases hc23 : (i0 &&& (3 : Int32)) = (2 : Int32)
      · skip
        obtain ⟨T24, h24, X24, e24, E24, A24, D24, U24, st24⟩ := newO X0 hx hZ hown (hw _ (List.mem_of_getElem? (i := 14) rfl)) (hw _ (List.mem_of_getElem? (i := 2) rfl)) (hw _ (List.mem_of_getElem? (i := 1) rfl)) e0 (g := (mkF m 74 #[.val (.int i0), .val (.int (i0 &&& (3 : Int32))), .val (.int j2), .val (.int j4), .val (.int j6)] [])) rfl (hb hby d1_74) (by decide) (by decide)
        obtain ⟨b24, g24⟩ : ∃ z, z = h0.size := ⟨_, rfl⟩
        rw [← g24] at A24 D24 U24 st24
        have lo24 : h0.size ≤ b24 := Nat.le_of_eq g24.symm
        have ge24 : Z.heap.size ≤ b24 := Nat.le_trans O0.2.1 lo24
        have R24 := CHr.ext (EL := EL) E24 CR0.1
        have sf24 := Safe.ext E24 CR0.1 (Safe.new lo24)
        have CR24 := CR0.trans R24
        have hk24 := Nat.le_trans hk0 R24.2.1
        have U24 : Unt h24 b24 := U24
        have F24_value : Fld Z h24 b24 "java/lang/String" "value" "[B" .null := D24 (Or.inr (hw _ (List.mem_of_getElem? (i := 4) rfl))) (ty := (.array .byte)) (by decide)
        have F24_coder : Fld Z h24 b24 "java/lang/String" "coder" "B" (.int (0 : Int32)) := D24 (Or.inr (hw _ (List.mem_of_getElem? (i := 5) rfl))) (ty := .byte) (by decide)
        obtain ⟨T25, h25, k25, X25, e25, E25, A25, st25⟩ := newP X24 hx hZ (hw _ (List.mem_of_getElem? (i := 15) rfl)) e24 (g := (mkF m 79 #[.val (.int i0), .val (.int (i0 &&& (3 : Int32))), .val (.int j2), .val (.int j4), .val (.int j6)] [(.int (2 : Int32)), (.ref b24), (.ref b24)])) rfl (hb hby d1_79) rfl (by decide) (cap := 2) (by decide) (by decide) (by decide) (by decide)
        obtain ⟨b25, g25⟩ : ∃ z, z = h24.size := ⟨_, rfl⟩
        rw [← g25] at A25 st25
        have lo25 : h24.size ≤ b25 := Nat.le_of_eq g25.symm
        have ge25 : Z.heap.size ≤ b25 := Nat.le_trans (O0.ext E24).2.1 lo25
        have R25 := CHr.ext (EL := EL) E25 CR24.1
        have sf25 := Safe.ext E25 CR24.1 (Safe.new lo25)
        have CR25 := CR24.trans R25
        have hk25 := Nat.le_trans hk24 R25.2.1
        have V25 := Arv.new A25 (by decide)
        have V25a : Arv Z h25 b25 k25 .char (2 : Int32) [(.int (0 : Int32)), (.int (0 : Int32))] (.int (0 : Int32)) := V25.pad (pad_rep [] (.int (0 : Int32)) 2)
        obtain ⟨cl26, Ar26, q26, S26, M26, H26, G26⟩ := id V25a
        have hin26 : ¬ ((0 : Int32) < 0 ∨ cl26.slots.size ≤ ((0 : Int32)).toNatClampNeg) := inb_of S26 ⟨by decide, by decide⟩
        obtain ⟨T26, h26, X26, e26, W26, st26⟩ := stC X25 hx hZ e25 Ar26 (j := (0 : Int32)) hin26 (g := (mkF m 84 #[.val (.int i0), .val (.int (i0 &&& (3 : Int32))), .val (.int j2), .val (.int j4), .val (.int j6)] [(.int j2), (.int (0 : Int32)), (.ref b25), (.ref b25), (.ref b24), (.ref b24)])) rfl rfl (hb hby d1_84)
        have V26 := Arv.set Ar26 q26 S26 M26 H26 G26 (fits_nar_char _) W26 0 rfl (Nat.le_of_ble_eq_true rfl)
        have N26 := Fr.snoc X26 N0 ge25
        have R26 := CHr.wr W26 sf25 CR25.1
        have CR26 := CR25.trans R26
        have hk26 := Nat.le_trans hk25 R26.2.1
        rw [hB2.nar] at V26
        have V26a : Arv Z h26 b25 k25 .char (2 : Int32) [(.int j2), (.int (0 : Int32))] (.int (0 : Int32)) := V26
        obtain ⟨cl27, Ar27, q27, S27, M27, H27, G27⟩ := id V26a
        have hin27 : ¬ ((1 : Int32) < 0 ∨ cl27.slots.size ≤ ((1 : Int32)).toNatClampNeg) := inb_of S27 ⟨by decide, by decide⟩
        obtain ⟨T27, h27, X27, e27, W27, st27⟩ := stC X26 hx hZ e26 Ar27 (j := (1 : Int32)) hin27 (g := (mkF m 88 #[.val (.int i0), .val (.int (i0 &&& (3 : Int32))), .val (.int j2), .val (.int j4), .val (.int j6)] [(.int j4), (.int (1 : Int32)), (.ref b25), (.ref b25), (.ref b24), (.ref b24)])) rfl rfl (hb hby d1_88)
        have V27 := Arv.set Ar27 q27 S27 M27 H27 G27 (fits_nar_char _) W27 1 rfl (Nat.le_of_ble_eq_true rfl)
        have N27 := Fr.snoc X27 N26 ge25
        have R27 := CHr.wr W27 (R26.safe V25.lt sf25) CR26.1
        have CR27 := CR26.trans R27
        have hk27 := Nat.le_trans hk26 R27.2.1
        rw [hB4.nar] at V27
        have V27a : Arv Z h27 b25 k25 .char (2 : Int32) [(.int j2), (.int j4)] (.int (0 : Int32)) := V27
        have c28 : Steps p.tables e below S0 (T27.setTop (mkF m 89 #[.val (.int i0), .val (.int (i0 &&& (3 : Int32))), .val (.int j2), .val (.int j4), .val (.int j6)] [(.ref b25), (.ref b24), (.ref b24)])) := c22.trans (by
          refine XS.icmpNo X0.here hx rfl (hb hby d1_71) rfl (teq hc23).2 ?_
          refine st24 _ ?_
          refine XS.dup X24.here hx rfl (hb hby d1_77) rfl rfl ?_
          refine XS.iconst X24.here hx rfl (hb hby d1_78) ?_
          refine st25 _ ?_
          show Steps p.tables e below (T25.setTop (mkF m 81 #[.val (.int i0), .val (.int (i0 &&& (3 : Int32))), .val (.int j2), .val (.int j4), .val (.int j6)] [(.ref b25), (.ref b24), (.ref b24)])) _
          refine XS.dup X25.here hx rfl (hb hby d1_81) rfl rfl ?_
          refine XS.iconst X25.here hx rfl (hb hby d1_82) ?_
          refine XS.iloadN X25.here hx rfl (hb hby d1_83) rfl ?_
          refine st26 _ ?_
          show Steps p.tables e below (T26.setTop (mkF m 85 #[.val (.int i0), .val (.int (i0 &&& (3 : Int32))), .val (.int j2), .val (.int j4), .val (.int j6)] [(.ref b25), (.ref b24), (.ref b24)])) _
          refine XS.dup X26.here hx rfl (hb hby d1_85) rfl rfl ?_
          refine XS.iconst X26.here hx rfl (hb hby d1_86) ?_
          refine XS.iloadN X26.here hx rfl (hb hby d1_87) rfl ?_
          refine st27 _ ?_
          show Steps p.tables e below (T27.setTop (mkF m 89 #[.val (.int i0), .val (.int (i0 &&& (3 : Int32))), .val (.int j2), .val (.int j4), .val (.int j6)] [(.ref b25), (.ref b24), (.ref b24)])) _
          exact Steps.refl _)
        obtain ⟨v29, T29, L29, X29, ⟨rfl, N29', K29, E29, Cd29, t29, kb29, gt29, lo29, ne29, V29, Kb29⟩, c29'⟩ := own_spec X27 hx hml hZ hown rfl (hw _ (List.mem_of_getElem? (i := 16) rfl)) (hw _ (List.mem_of_getElem? (i := 17) rfl)) (hw _ (List.mem_of_getElem? (i := 18) rfl)) (by decide) (Q := StrChars.Road.QV Z b24 (2 : Int32) (([j2, j4] : List Int32).map (fun c : Int32 => c.toInt8.toInt32)) h27 Z.heap.size) (kc := 1) (ks := 2) (h := h27) (W := 1) (b := b24) (argsL := [(.ref b25)]) (rest := [(.ref b24)]) (StrChars.Road.backV (s := (s.setVm s.vm)) (R := ({ frames := 7, cells := 6, slots := 40, locals := 110 } : Room)) (W := 1) hZ (own_wi hw) (kI := 4) (hw _ (List.mem_of_getElem? (i := 2) rfl)) (cs := [j2, j4]) (bs := ([j2, j4] : List Int32).map (fun c : Int32 => c.toInt8.toInt32)) (n := 2) ge24 ((((O0.ext E24).ext E25).wr W26 ge25).wr W27 ge25).2.1 (((A24.ext E25).wr W26).wr W27) (((F24_value.ext E25).other W26 (Or.inl (Nat.ne_of_lt (Nat.lt_of_lt_of_le A24.lt lo25)))).other W27 (Or.inl (Nat.ne_of_lt (Nat.lt_of_lt_of_le A24.lt lo25)))) (((F24_coder.ext E25).other W26 (Or.inl (Nat.ne_of_lt (Nat.lt_of_lt_of_le A24.lt lo25)))).other W27 (Or.inl (Nat.ne_of_lt (Nat.lt_of_lt_of_le A24.lt lo25)))) V27a (SC.ext ((((O0.ext E24).ext E25).wr W26 ge25).wr W27 ge25).2) hz rfl rfl (by decide) (by decide) (fun c hc => ((own_cons hB2 (own_cons hB4 own_nil)) c hc).rng) rfl (by decide) (by decide)) c28 (lenOf pd_20 rfl) rfl (hb hby d1_89) e27
        have N29 := Fr.app N27 N29'
        have R29 := CHr.keep K29 (sfS (((R25.trans R26).trans R27).safe A24.lt sf24) sf0) CR27.1
        have CR29 := CR27.trans R29
        have hk29 := Nat.le_trans hk27 R29.2.1
        have c29 : Steps p.tables e below S0 (T29.setTop (mkF m 92 #[.val (.int i0), .val (.int (i0 &&& (3 : Int32))), .val (.int j2), .val (.int j4), .val (.int j6)] [(.ref b24)])) := c29'
        refine ⟨T29, s.vm, _, (some (.ref b24)), _, _, _, X29, by decide, by decide, (fun q => by cases q), N29, hS0, hk29, hZ, CR29, ?_, fun fs hr => ?_⟩
        · skip
          exact ⟨[j2, j4], (by simp), (own_cons hB2 (own_cons hB4 own_nil)), b24, t29, kb29, rfl, ((((((Keep.refl h0 []).ext E24).ext E25).wr W26 (Or.inr (Nat.le_trans ((Keep.refl h0 []).ext E24).1 lo25))).wr W27 (Or.inr (Nat.le_trans ((Keep.refl h0 []).ext E24).1 lo25))).trans K29 (allS (Or.inr (Nat.le_trans (Keep.refl h0 []).1 lo24)) all0)), (Nat.le_trans (Keep.refl h0 []).1 lo24), E29, V29, Cd29, Kb29⟩
        · exact own_retR X29 hx c29 hret rfl rfl (hb hby d1_92) hr
      · skip
        obtain ⟨T31, h31, X31, e31, E31, A31, D31, U31, st31⟩ := newO X0 hx hZ hown (hw _ (List.mem_of_getElem? (i := 14) rfl)) (hw _ (List.mem_of_getElem? (i := 2) rfl)) (hw _ (List.mem_of_getElem? (i := 1) rfl)) e0 (g := (mkF m 93 #[.val (.int i0), .val (.int (i0 &&& (3 : Int32))), .val (.int j2), .val (.int j4), .val (.int j6)] [])) rfl (hb hby d1_93) (by decide) (by decide)
        obtain ⟨b31, g31⟩ : ∃ z, z = h0.size := ⟨_, rfl⟩
        rw [← g31] at A31 D31 U31 st31
        have lo31 : h0.size ≤ b31 := Nat.le_of_eq g31.symm
        have ge31 : Z.heap.size ≤ b31 := Nat.le_trans O0.2.1 lo31
        have R31 := CHr.ext (EL := EL) E31 CR0.1
        have sf31 := Safe.ext E31 CR0.1 (Safe.new lo31)
        have CR31 := CR0.trans R31
        have hk31 := Nat.le_trans hk0 R31.2.1
        have U31 : Unt h31 b31 := U31
        have F31_value : Fld Z h31 b31 "java/lang/String" "value" "[B" .null := D31 (Or.inr (hw _ (List.mem_of_getElem? (i := 4) rfl))) (ty := (.array .byte)) (by decide)
        have F31_coder : Fld Z h31 b31 "java/lang/String" "coder" "B" (.int (0 : Int32)) := D31 (Or.inr (hw _ (List.mem_of_getElem? (i := 5) rfl))) (ty := .byte) (by decide)
        obtain ⟨T32, h32, k32, X32, e32, E32, A32, st32⟩ := newP X31 hx hZ (hw _ (List.mem_of_getElem? (i := 15) rfl)) e31 (g := (mkF m 98 #[.val (.int i0), .val (.int (i0 &&& (3 : Int32))), .val (.int j2), .val (.int j4), .val (.int j6)] [(.int (3 : Int32)), (.ref b31), (.ref b31)])) rfl (hb hby d1_98) rfl (by decide) (cap := 3) (by decide) (by decide) (by decide) (by decide)
        obtain ⟨b32, g32⟩ : ∃ z, z = h31.size := ⟨_, rfl⟩
        rw [← g32] at A32 st32
        have lo32 : h31.size ≤ b32 := Nat.le_of_eq g32.symm
        have ge32 : Z.heap.size ≤ b32 := Nat.le_trans (O0.ext E31).2.1 lo32
        have R32 := CHr.ext (EL := EL) E32 CR31.1
        have sf32 := Safe.ext E32 CR31.1 (Safe.new lo32)
        have CR32 := CR31.trans R32
        have hk32 := Nat.le_trans hk31 R32.2.1
        have V32 := Arv.new A32 (by decide)
        have V32a : Arv Z h32 b32 k32 .char (3 : Int32) [(.int (0 : Int32)), (.int (0 : Int32)), (.int (0 : Int32))] (.int (0 : Int32)) := V32.pad (pad_rep [] (.int (0 : Int32)) 3)
        obtain ⟨cl33, Ar33, q33, S33, M33, H33, G33⟩ := id V32a
        have hin33 : ¬ ((0 : Int32) < 0 ∨ cl33.slots.size ≤ ((0 : Int32)).toNatClampNeg) := inb_of S33 ⟨by decide, by decide⟩
        obtain ⟨T33, h33, X33, e33, W33, st33⟩ := stC X32 hx hZ e32 Ar33 (j := (0 : Int32)) hin33 (g := (mkF m 103 #[.val (.int i0), .val (.int (i0 &&& (3 : Int32))), .val (.int j2), .val (.int j4), .val (.int j6)] [(.int j2), (.int (0 : Int32)), (.ref b32), (.ref b32), (.ref b31), (.ref b31)])) rfl rfl (hb hby d1_103)
        have V33 := Arv.set Ar33 q33 S33 M33 H33 G33 (fits_nar_char _) W33 0 rfl (Nat.le_of_ble_eq_true rfl)
        have N33 := Fr.snoc X33 N0 ge32
        have R33 := CHr.wr W33 sf32 CR32.1
        have CR33 := CR32.trans R33
        have hk33 := Nat.le_trans hk32 R33.2.1
        rw [hB2.nar] at V33
        have V33a : Arv Z h33 b32 k32 .char (3 : Int32) [(.int j2), (.int (0 : Int32)), (.int (0 : Int32))] (.int (0 : Int32)) := V33
        obtain ⟨cl34, Ar34, q34, S34, M34, H34, G34⟩ := id V33a
        have hin34 : ¬ ((1 : Int32) < 0 ∨ cl34.slots.size ≤ ((1 : Int32)).toNatClampNeg) := inb_of S34 ⟨by decide, by decide⟩
        obtain ⟨T34, h34, X34, e34, W34, st34⟩ := stC X33 hx hZ e33 Ar34 (j := (1 : Int32)) hin34 (g := (mkF m 107 #[.val (.int i0), .val (.int (i0 &&& (3 : Int32))), .val (.int j2), .val (.int j4), .val (.int j6)] [(.int j4), (.int (1 : Int32)), (.ref b32), (.ref b32), (.ref b31), (.ref b31)])) rfl rfl (hb hby d1_107)
        have V34 := Arv.set Ar34 q34 S34 M34 H34 G34 (fits_nar_char _) W34 1 rfl (Nat.le_of_ble_eq_true rfl)
        have N34 := Fr.snoc X34 N33 ge32
        have R34 := CHr.wr W34 (R33.safe V32.lt sf32) CR33.1
        have CR34 := CR33.trans R34
        have hk34 := Nat.le_trans hk33 R34.2.1
        rw [hB4.nar] at V34
        have V34a : Arv Z h34 b32 k32 .char (3 : Int32) [(.int j2), (.int j4), (.int (0 : Int32))] (.int (0 : Int32)) := V34
        obtain ⟨cl35, Ar35, q35, S35, M35, H35, G35⟩ := id V34a
        have hin35 : ¬ ((2 : Int32) < 0 ∨ cl35.slots.size ≤ ((2 : Int32)).toNatClampNeg) := inb_of S35 ⟨by decide, by decide⟩
        obtain ⟨T35, h35, X35, e35, W35, st35⟩ := stC X34 hx hZ e34 Ar35 (j := (2 : Int32)) hin35 (g := (mkF m 112 #[.val (.int i0), .val (.int (i0 &&& (3 : Int32))), .val (.int j2), .val (.int j4), .val (.int j6)] [(.int j6), (.int (2 : Int32)), (.ref b32), (.ref b32), (.ref b31), (.ref b31)])) rfl rfl (hb hby d1_112)
        have V35 := Arv.set Ar35 q35 S35 M35 H35 G35 (fits_nar_char _) W35 2 rfl (Nat.le_of_ble_eq_true rfl)
        have N35 := Fr.snoc X35 N34 ge32
        have R35 := CHr.wr W35 ((R33.trans R34).safe V32.lt sf32) CR34.1
        have CR35 := CR34.trans R35
        have hk35 := Nat.le_trans hk34 R35.2.1
        rw [hB6.nar] at V35
        have V35a : Arv Z h35 b32 k32 .char (3 : Int32) [(.int j2), (.int j4), (.int j6)] (.int (0 : Int32)) := V35
        have c36 : Steps p.tables e below S0 (T35.setTop (mkF m 113 #[.val (.int i0), .val (.int (i0 &&& (3 : Int32))), .val (.int j2), .val (.int j4), .val (.int j6)] [(.ref b32), (.ref b31), (.ref b31)])) := c22.trans (by
          refine XS.icmpYes X0.here hx rfl (pc0 := 71) (pc' := 93) rfl (hb hby d1_71) rfl (feq hc23).2 (by decide) (by decide) ?_
          refine st31 _ ?_
          refine XS.dup X31.here hx rfl (hb hby d1_96) rfl rfl ?_
          refine XS.iconst X31.here hx rfl (hb hby d1_97) ?_
          refine st32 _ ?_
          show Steps p.tables e below (T32.setTop (mkF m 100 #[.val (.int i0), .val (.int (i0 &&& (3 : Int32))), .val (.int j2), .val (.int j4), .val (.int j6)] [(.ref b32), (.ref b31), (.ref b31)])) _
          refine XS.dup X32.here hx rfl (hb hby d1_100) rfl rfl ?_
          refine XS.iconst X32.here hx rfl (hb hby d1_101) ?_
          refine XS.iloadN X32.here hx rfl (hb hby d1_102) rfl ?_
          refine st33 _ ?_
          show Steps p.tables e below (T33.setTop (mkF m 104 #[.val (.int i0), .val (.int (i0 &&& (3 : Int32))), .val (.int j2), .val (.int j4), .val (.int j6)] [(.ref b32), (.ref b31), (.ref b31)])) _
          refine XS.dup X33.here hx rfl (hb hby d1_104) rfl rfl ?_
          refine XS.iconst X33.here hx rfl (hb hby d1_105) ?_
          refine XS.iloadN X33.here hx rfl (hb hby d1_106) rfl ?_
          refine st34 _ ?_
          show Steps p.tables e below (T34.setTop (mkF m 108 #[.val (.int i0), .val (.int (i0 &&& (3 : Int32))), .val (.int j2), .val (.int j4), .val (.int j6)] [(.ref b32), (.ref b31), (.ref b31)])) _
          refine XS.dup X34.here hx rfl (hb hby d1_108) rfl rfl ?_
          refine XS.iconst X34.here hx rfl (hb hby d1_109) ?_
          refine XS.iload X34.here hx rfl (hb hby d1_110) rfl ?_
          refine st35 _ ?_
          show Steps p.tables e below (T35.setTop (mkF m 113 #[.val (.int i0), .val (.int (i0 &&& (3 : Int32))), .val (.int j2), .val (.int j4), .val (.int j6)] [(.ref b32), (.ref b31), (.ref b31)])) _
          exact Steps.refl _)
        obtain ⟨v37, T37, L37, X37, ⟨rfl, N37', K37, E37, Cd37, t37, kb37, gt37, lo37, ne37, V37, Kb37⟩, c37'⟩ := own_spec X35 hx hml hZ hown rfl (hw _ (List.mem_of_getElem? (i := 16) rfl)) (hw _ (List.mem_of_getElem? (i := 17) rfl)) (hw _ (List.mem_of_getElem? (i := 18) rfl)) (by decide) (Q := StrChars.Road.QV Z b31 (3 : Int32) (([j2, j4, j6] : List Int32).map (fun c : Int32 => c.toInt8.toInt32)) h35 Z.heap.size) (kc := 1) (ks := 3) (h := h35) (W := 1) (b := b31) (argsL := [(.ref b32)]) (rest := [(.ref b31)]) (StrChars.Road.backV (s := (s.setVm s.vm)) (R := ({ frames := 7, cells := 6, slots := 40, locals := 110 } : Room)) (W := 1) hZ (own_wi hw) (kI := 4) (hw _ (List.mem_of_getElem? (i := 2) rfl)) (cs := [j2, j4, j6]) (bs := ([j2, j4, j6] : List Int32).map (fun c : Int32 => c.toInt8.toInt32)) (n := 3) ge31 (((((O0.ext E31).ext E32).wr W33 ge32).wr W34 ge32).wr W35 ge32).2.1 ((((A31.ext E32).wr W33).wr W34).wr W35) ((((F31_value.ext E32).other W33 (Or.inl (Nat.ne_of_lt (Nat.lt_of_lt_of_le A31.lt lo32)))).other W34 (Or.inl (Nat.ne_of_lt (Nat.lt_of_lt_of_le A31.lt lo32)))).other W35 (Or.inl (Nat.ne_of_lt (Nat.lt_of_lt_of_le A31.lt lo32)))) ((((F31_coder.ext E32).other W33 (Or.inl (Nat.ne_of_lt (Nat.lt_of_lt_of_le A31.lt lo32)))).other W34 (Or.inl (Nat.ne_of_lt (Nat.lt_of_lt_of_le A31.lt lo32)))).other W35 (Or.inl (Nat.ne_of_lt (Nat.lt_of_lt_of_le A31.lt lo32)))) V35a (SC.ext (((((O0.ext E31).ext E32).wr W33 ge32).wr W34 ge32).wr W35 ge32).2) hz rfl rfl (by decide) (by decide) (fun c hc => ((own_cons hB2 (own_cons hB4 (own_cons hB6 own_nil))) c hc).rng) rfl (by decide) (by decide)) c36 (lenOf pd_20 rfl) rfl (hb hby d1_113) e35
        have N37 := Fr.app N35 N37'
        have R37 := CHr.keep K37 (sfS ((((R32.trans R33).trans R34).trans R35).safe A31.lt sf31) sf0) CR35.1
        have CR37 := CR35.trans R37
        have hk37 := Nat.le_trans hk35 R37.2.1
        have c37 : Steps p.tables e below S0 (T37.setTop (mkF m 116 #[.val (.int i0), .val (.int (i0 &&& (3 : Int32))), .val (.int j2), .val (.int j4), .val (.int j6)] [(.ref b31)])) := c37'
        refine ⟨T37, s.vm, _, (some (.ref b31)), _, _, _, X37, by decide, by decide, (fun q => by cases q), N37, hS0, hk37, hZ, CR37, ?_, fun fs hr => ?_⟩
        · skip
          exact ⟨[j2, j4, j6], (by simp), (own_cons hB2 (own_cons hB4 (own_cons hB6 own_nil))), b31, t37, kb37, rfl, (((((((Keep.refl h0 []).ext E31).ext E32).wr W33 (Or.inr (Nat.le_trans ((Keep.refl h0 []).ext E31).1 lo32))).wr W34 (Or.inr (Nat.le_trans ((Keep.refl h0 []).ext E31).1 lo32))).wr W35 (Or.inr (Nat.le_trans ((Keep.refl h0 []).ext E31).1 lo32))).trans K37 (allS (Or.inr (Nat.le_trans (Keep.refl h0 []).1 lo31)) all0)), (Nat.le_trans (Keep.refl h0 []).1 lo31), E37, V37, Cd37, Kb37⟩
        · exact own_retR X37 hx c37 hret rfl rfl (hb hby d1_116) hr
set_option maxRecDepth 65536 in
set_option maxHeartbeats 40000000 in
theorem rm0 (l : Launch) (Z : State) (a0 : Array Value) (hw : ∀ d ∈ tables_1, d.before a0 Z = true) (hEL : EW Z a0 EL) (i0 i1 i2 : Int32) (z : Int32) (fm uS uP : Value) (h0 : Heap) (O0 : Old Z Z.heap.size h0) (SC : Sta Z Z.heap "java/lang/String" "COMPACT_STRINGS" "Z" (.int z)) (hz : ¬ z = 0) (SF : Sta Z Z.heap "jdk/internal/util/Preconditions" "SIOOBE_FORMATTER" "Ljava/util/function/BiFunction;" fm) (hfm : fm.isRef = true) (hl : l.stackTraces = true) (US : Sta Z Z.heap "java/lang/Throwable" "UNASSIGNED_STACK" "[Ljava/lang/StackTraceElement;" uS) (hus : uS.isRef = true) (SP : Sta Z Z.heap "java/lang/Throwable" "SUPPRESSED_SENTINEL" "Ljava/util/List;" uP) (hup : uP.isRef = true) :
    own_KW l Z EL x code maxLocals ret room_1 #[(.int i0), (.int i1), (.int i2)] h0 [] (fun v h => v = some (.int (1 : Int32))) := by
  intro p e s m below meth c s₁ S0 X0 hx hby hml hret hnm hown hZ e0 hS0 CR0 hsf hTK hBe cc
  have N0 := Fr.nil Z.heap.size
  have hk0 : 0 ≤ h0.size := Nat.zero_le _
  have hstr : ∀ d ∈ Bundle.stringAtoms, d.before a0 Z = true := fun d hd => hw d (own_strA d hd)
  have c0 : Steps p.tables e below S0 (s₁.setTop (mkF m 0 #[.val (.int i0), .val (.int i1), .val (.int i2), .unset, .unset, .unset, .unset, .unset, .unset, .unset, .unset, .unset, .unset, .unset, .unset, .unset, .unset, .unset, .unset] [])) := cc.trans (XT.entry rfl)
  obtain ⟨la_1, T1, h1, kn1, lb_1, lk1, X1, e1, E1, hS1, hk1, hZ1, hown1, Ea1, Ca1, Va1, Kb1, la1, lb1, R1, Lt1, ne1, st1⟩ := ldcCH X0 hx hZ hown (hw _ (List.mem_of_getElem? (i := 0) rfl)) hstr e0 hS0 hk0 hEL (by decide) CR0.1 (vs := [(.int (116 : Int32)), (.int (104 : Int32)), (.int (101 : Int32)), (.int (32 : Int32)), (.int (108 : Int32)), (.int (111 : Int32)), (.int (97 : Int32)), (.int (100 : Int32)), (.int (101 : Int32)), (.int (114 : Int32)), (.int (32 : Int32)), (.int (111 : Int32)), (.int (102 : Int32)), (.int (32 : Int32)), (.int (107 : Int32)), (.int (101 : Int32)), (.int (121 : Int32)), (.int (32 : Int32))]) (z := (18 : Int32)) ⟨by decide, by decide⟩ (by decide) (by decide) (g := (mkF m 0 #[.val (.int i0), .val (.int i1), .val (.int i2), .unset, .unset, .unset, .unset, .unset, .unset, .unset, .unset, .unset, .unset, .unset, .unset, .unset, .unset, .unset, .unset] [])) rfl (hb hby at_0) (n := 72) (by decide) (by decide) (by decide) (by decide)
  have CR1 := CR0.trans R1
  have c2 : Steps p.tables e below S0 (T1.setTop (mkF m 2 #[.val (.int i0), .val (.int i1), .val (.int i2), .unset, .unset, .unset, .unset, .unset, .unset, .unset, .unset, .unset, .unset, .unset, .unset, .unset, .unset, .unset, .unset] [(.ref la_1)])) := c0.trans (by
    refine st1 _ ?_
    exact Steps.refl _)
  have Kl3 : Arv Z h1 lb_1 lk1 .byte (Int32.ofNat (own_p : List Int32).length) (((own_p : List Int32).map (fun c : Int32 => c.toInt8.toInt32)).map Value.int) (.int (0 : Int32)) := by rw [own_pB, own_pE]; exact Kb1
  obtain ⟨la_4, T4, h4, kn4, lb_4, lk4, X4, e4, E4, hS4, hk4, hZ4, hown4, Ea4, Ca4, Va4, Kb4, la4, lb4, R4, Lt4, ne4, st4⟩ := ldcCH X1 hx hZ1 hown1 (hw _ (List.mem_of_getElem? (i := 8) rfl)) hstr e1 hS1 hk1 hEL (by decide) CR1.1 (vs := [(.int (32 : Int32)), (.int (111 : Int32)), (.int (102 : Int32)), (.int (32 : Int32)), (.int (99 : Int32)), (.int (97 : Int32)), (.int (99 : Int32)), (.int (104 : Int32)), (.int (101 : Int32)), (.int (32 : Int32))]) (z := (10 : Int32)) ⟨by decide, by decide⟩ (by decide) (by decide) (g := (mkF m 3 #[.val (.int i0), .val (.int i1), .val (.int i2), .val (.ref la_1), .unset, .unset, .unset, .unset, .unset, .unset, .unset, .unset, .unset, .unset, .unset, .unset, .unset, .unset, .unset] [])) rfl (hb hby at_3) (n := 40) (by decide) (by decide) (by decide) (by decide)
  have CR4 := CR1.trans R4
  have c5 : Steps p.tables e below S0 (T4.setTop (mkF m 5 #[.val (.int i0), .val (.int i1), .val (.int i2), .val (.ref la_1), .unset, .unset, .unset, .unset, .unset, .unset, .unset, .unset, .unset, .unset, .unset, .unset, .unset, .unset, .unset] [(.ref la_4)])) := c2.trans (by
    refine XS.astoreN X1.here hx rfl (hb hby at_2) rfl rfl (l' := #[.val (.int i0), .val (.int i1), .val (.int i2), .val (.ref la_1), .unset, .unset, .unset, .unset, .unset, .unset, .unset, .unset, .unset, .unset, .unset, .unset, .unset, .unset, .unset]) rfl ?_
    refine st4 _ ?_
    exact Steps.refl _)
  have Kl6 : Arv Z h4 lb_4 lk4 .byte (Int32.ofNat (own_m : List Int32).length) (((own_m : List Int32).map (fun c : Int32 => c.toInt8.toInt32)).map Value.int) (.int (0 : Int32)) := by rw [own_mB, own_mE]; exact Kb4
  obtain ⟨la_7, T7, h7, kn7, lb_7, lk7, X7, e7, E7, hS7, hk7, hZ7, hown7, Ea7, Ca7, Va7, Kb7, la7, lb7, R7, Lt7, ne7, st7⟩ := ldcCH X4 hx hZ4 hown4 (hw _ (List.mem_of_getElem? (i := 9) rfl)) hstr e4 hS4 hk4 hEL (by decide) CR4.1 (vs := [(.int (32 : Int32)), (.int (97 : Int32)), (.int (115 : Int32)), (.int (107 : Int32)), (.int (101 : Int32)), (.int (100 : Int32)), (.int (32 : Int32)), (.int (116 : Int32)), (.int (104 : Int32)), (.int (101 : Int32)), (.int (32 : Int32)), (.int (99 : Int32)), (.int (97 : Int32)), (.int (99 : Int32)), (.int (104 : Int32)), (.int (101 : Int32)), (.int (32 : Int32)), (.int (102 : Int32)), (.int (111 : Int32)), (.int (114 : Int32)), (.int (32 : Int32)), (.int (116 : Int32)), (.int (104 : Int32)), (.int (97 : Int32)), (.int (116 : Int32)), (.int (32 : Int32)), (.int (115 : Int32)), (.int (97 : Int32)), (.int (109 : Int32)), (.int (101 : Int32)), (.int (32 : Int32)), (.int (107 : Int32)), (.int (101 : Int32)), (.int (121 : Int32)), (.int (44 : Int32)), (.int (32 : Int32)), (.int (97 : Int32)), (.int (110 : Int32)), (.int (100 : Int32)), (.int (32 : Int32)), (.int (119 : Int32)), (.int (111 : Int32)), (.int (117 : Int32)), (.int (108 : Int32)), (.int (100 : Int32)), (.int (32 : Int32)), (.int (119 : Int32)), (.int (97 : Int32)), (.int (105 : Int32)), (.int (116 : Int32)), (.int (32 : Int32)), (.int (102 : Int32)), (.int (111 : Int32)), (.int (114 : Int32)), (.int (32 : Int32)), (.int (105 : Int32)), (.int (116 : Int32)), (.int (115 : Int32)), (.int (101 : Int32)), (.int (108 : Int32)), (.int (102 : Int32))]) (z := (61 : Int32)) ⟨by decide, by decide⟩ (by decide) (by decide) (g := (mkF m 7 #[.val (.int i0), .val (.int i1), .val (.int i2), .val (.ref la_1), .val (.ref la_4), .unset, .unset, .unset, .unset, .unset, .unset, .unset, .unset, .unset, .unset, .unset, .unset, .unset, .unset] [])) rfl (hb hby at_7) (n := 244) (by decide) (by decide) (by decide) (by decide)
  have CR7 := CR4.trans R7
  have c8 : Steps p.tables e below S0 (T7.setTop (mkF m 9 #[.val (.int i0), .val (.int i1), .val (.int i2), .val (.ref la_1), .val (.ref la_4), .unset, .unset, .unset, .unset, .unset, .unset, .unset, .unset, .unset, .unset, .unset, .unset, .unset, .unset] [(.ref la_7)])) := c5.trans (by
    refine XS.astore X4.here hx rfl (hb hby at_5) rfl rfl (l' := #[.val (.int i0), .val (.int i1), .val (.int i2), .val (.ref la_1), .val (.ref la_4), .unset, .unset, .unset, .unset, .unset, .unset, .unset, .unset, .unset, .unset, .unset, .unset, .unset, .unset]) rfl ?_
    refine st7 _ ?_
    exact Steps.refl _)
  have Kl9 : Arv Z h7 lb_7 lk7 .byte (Int32.ofNat (own_s : List Int32).length) (((own_s : List Int32).map (fun c : Int32 => c.toInt8.toInt32)).map Value.int) (.int (0 : Int32)) := by rw [own_sB, own_sE]; exact Kb7
  have c10 : Steps p.tables e below S0 (T7.setTop (mkF m 12 #[.val (.int i0), .val (.int i1), .val (.int i2), .val (.ref la_1), .val (.ref la_4), .val (.ref la_7), .unset, .unset, .unset, .unset, .unset, .unset, .unset, .unset, .unset, .unset, .unset, .unset, .unset] [(.int i0)])) := c8.trans (by
    refine XS.astore X7.here hx rfl (hb hby at_9) rfl rfl (l' := #[.val (.int i0), .val (.int i1), .val (.int i2), .val (.ref la_1), .val (.ref la_4), .val (.ref la_7), .unset, .unset, .unset, .unset, .unset, .unset, .unset, .unset, .unset, .unset, .unset, .unset, .unset]) rfl ?_
    refine XS.iloadN X7.here hx rfl (hb hby at_11) rfl ?_
    exact Steps.refl _)
  obtain ⟨v11, T11, L11, X11, hS11, hZ11, hown11, R11, ⟨N11', cs11, hn11, hB11, x11, t11, kb11, rfl, K11, lo11, E11, V11, Cd11, Kb11⟩, c11'⟩ := own_wstat X7 hx hml hZ7 hown7 hS7 hk7 (hw _ (List.mem_of_getElem? (i := 10) rfl)) (hw _ (List.mem_of_getElem? (i := 11) rfl)) (hw _ (List.mem_of_getElem? (i := 12) rfl)) (hw _ (List.mem_of_getElem? (i := 13) rfl)) (by decide) (kc := 6) (ks := 40) (h := h7) (W := 0) (argsL := [(.int i0)]) (rest := []) (own_wpay (W := 0) (rmStr l Z a0 hw hEL i0 z fm h7 (((O0.ext E1).ext E4).ext E7) SC hz SF hfm) hZ7 (hw _ (List.mem_of_getElem? (i := 13) rfl)) (hw _ (List.mem_of_getElem? (i := 12) rfl)) (by decide) (by decide) hEL CR7.1 all0) c10 (lenOf pd_21 rfl) rfl (hb hby at_12) e7
  have N11 := Fr.app N0 N11'
  have CR11 := CR7.trans R11
  have c11 : Steps p.tables e below S0 (T11.setTop (mkF m 15 #[.val (.int i0), .val (.int i1), .val (.int i2), .val (.ref la_1), .val (.ref la_4), .val (.ref la_7), .unset, .unset, .unset, .unset, .unset, .unset, .unset, .unset, .unset, .unset, .unset, .unset, .unset] [(.ref x11)])) := c11'
  have c12 : Steps p.tables e below S0 (T11.setTop (mkF m 18 #[.val (.int i0), .val (.int i1), .val (.int i2), .val (.ref la_1), .val (.ref la_4), .val (.ref la_7), .val (.ref x11), .unset, .unset, .unset, .unset, .unset, .unset, .unset, .unset, .unset, .unset, .unset, .unset] [(.int i1)])) := c11.trans (by
    refine XS.astore X11.here hx rfl (hb hby at_15) rfl rfl (l' := #[.val (.int i0), .val (.int i1), .val (.int i2), .val (.ref la_1), .val (.ref la_4), .val (.ref la_7), .val (.ref x11), .unset, .unset, .unset, .unset, .unset, .unset, .unset, .unset, .unset, .unset, .unset, .unset]) rfl ?_
    refine XS.iloadN X11.here hx rfl (hb hby at_17) rfl ?_
    exact Steps.refl _)
  obtain ⟨v13, T13, L13, X13, hS13, hZ13, hown13, R13, ⟨N13', cs13, hn13, hB13, x13, t13, kb13, rfl, K13, lo13, E13, V13, Cd13, Kb13⟩, c13'⟩ := own_wstat X11 hx hml hZ11 hown11 hS11 (Nat.le_refl _) (hw _ (List.mem_of_getElem? (i := 10) rfl)) (hw _ (List.mem_of_getElem? (i := 11) rfl)) (hw _ (List.mem_of_getElem? (i := 12) rfl)) (hw _ (List.mem_of_getElem? (i := 13) rfl)) (by decide) (kc := 6) (ks := 40) (h := T11.heap) (W := 0) (argsL := [(.int i1)]) (rest := []) (own_wpay (W := 0) (rmStr l Z a0 hw hEL i1 z fm T11.heap ((((O0.ext E1).ext E4).ext E7).keep K11 all0) SC hz SF hfm) hZ11 (hw _ (List.mem_of_getElem? (i := 13) rfl)) (hw _ (List.mem_of_getElem? (i := 12) rfl)) (by decide) (by decide) hEL CR11.1 all0) c12 (lenOf pd_21 rfl) rfl (hb hby at_18) rfl
  have N13 := Fr.app N11 N13'
  have CR13 := CR11.trans R13
  have c13 : Steps p.tables e below S0 (T13.setTop (mkF m 21 #[.val (.int i0), .val (.int i1), .val (.int i2), .val (.ref la_1), .val (.ref la_4), .val (.ref la_7), .val (.ref x11), .unset, .unset, .unset, .unset, .unset, .unset, .unset, .unset, .unset, .unset, .unset, .unset] [(.ref x13)])) := c13'
  have c14 : Steps p.tables e below S0 (T13.setTop (mkF m 27 #[.val (.int i0), .val (.int i1), .val (.int i2), .val (.ref la_1), .val (.ref la_4), .val (.ref la_7), .val (.ref x11), .val (.ref x13), .unset, .unset, .unset, .unset, .unset, .unset, .unset, .unset, .unset, .unset, .unset] [(.ref x11), (.ref x13)])) := c13.trans (by
    refine XS.astore X13.here hx rfl (hb hby at_21) rfl rfl (l' := #[.val (.int i0), .val (.int i1), .val (.int i2), .val (.ref la_1), .val (.ref la_4), .val (.ref la_7), .val (.ref x11), .val (.ref x13), .unset, .unset, .unset, .unset, .unset, .unset, .unset, .unset, .unset, .unset, .unset]) rfl ?_
    refine XS.aload X13.here hx rfl (hb hby at_23) rfl rfl ?_
    refine XS.aload X13.here hx rfl (hb hby at_25) rfl rfl ?_
    exact Steps.refl _)
  obtain ⟨v15, T15, L15, X15, hS15, hZ15, hown15, R15, ⟨N15', a15, x15, t15, kb15, rfl, K15, lo15, E15, U15, M15, C15, Ex15, Vx15, Cx15, Kx15⟩, c15'⟩ := own_wstat X13 hx hml hZ13 hown13 hS13 (Nat.le_refl _) (hw _ (List.mem_of_getElem? (i := 40) rfl)) (hw _ (List.mem_of_getElem? (i := 41) rfl)) (hw _ (List.mem_of_getElem? (i := 42) rfl)) (hw _ (List.mem_of_getElem? (i := 43) rfl)) (by decide) (kc := 20) (ks := 5000) (h := T13.heap) (W := 0) (argsL := [(.ref x13), (.ref x11)]) (rest := []) (own_kpay (R := room_1) (s := s) (W := 0) (rmAsk l Z a0 hw hEL cs13 cs11 x13 t13 x11 t11 kb13 kb11 z fm uS uP T13.heap (((((O0.ext E1).ext E4).ext E7).keep K11 all0).keep K13 all0) E13 V13 Cd13 Kb13 (E11.keep K13) (V11.keep K13 nin0) (Cd11.keep K13 nin0) (Kb11.keep K13 nin0) hn13 hn11 hB13 hB11 hl US hus SP hup SC hz SF hfm) hZ13 (hw _ (List.mem_of_getElem? (i := 43) rfl)) (hw _ (List.mem_of_getElem? (i := 42) rfl)) (by decide) (by decide) hEL CR13.1 (Vm.MethodsKnown.alikeC hS13.1.alike hTK) (Vm.FramesKnown.alikeC hS13.1.alike hBe) all0) c14 (lenOf pd_22 rfl) rfl (hb hby at_27) rfl
  have N15 := Fr.app N13 N15'
  have CR15 := CR13.trans R15
  have c15 : Steps p.tables e below S0 (T15.setTop (mkF m 30 #[.val (.int i0), .val (.int i1), .val (.int i2), .val (.ref la_1), .val (.ref la_4), .val (.ref la_7), .val (.ref x11), .val (.ref x13), .unset, .unset, .unset, .unset, .unset, .unset, .unset, .unset, .unset, .unset, .unset] [(.ref a15)])) := c15'
  have c16 : Steps p.tables e below S0 (T15.setTop (mkF m 41 #[.val (.int i0), .val (.int i1), .val (.int i2), .val (.ref la_1), .val (.ref la_4), .val (.ref la_7), .val (.ref x11), .val (.ref x13), .val (.ref a15), .unset, .unset, .unset, .unset, .unset, .unset, .unset, .unset, .unset, .unset] [(.ref a15)])) := c15.trans (by
    refine XS.astore X15.here hx rfl (hb hby at_30) rfl rfl (l' := #[.val (.int i0), .val (.int i1), .val (.int i2), .val (.ref la_1), .val (.ref la_4), .val (.ref la_7), .val (.ref x11), .val (.ref x13), .val (.ref a15), .unset, .unset, .unset, .unset, .unset, .unset, .unset, .unset, .unset, .unset]) rfl ?_
    refine XS.aload X15.here hx rfl (hb hby at_32) rfl rfl ?_
    refine XS.ifnonnullYes X15.here hx rfl (pc0 := 34) (pc' := 39) rfl (hb hby at_34) rfl (by decide) (by decide) ?_
    refine XS.aload X15.here hx rfl (hb hby at_39) rfl rfl ?_
    exact Steps.refl _)
  obtain ⟨T17, X17, e17, c17'⟩ := own_gc X15 hx hml hZ15 hown15 (hw _ (List.mem_of_getElem? (i := 238) rfl)) (hw _ (List.mem_of_getElem? (i := 239) rfl)) (hw _ (List.mem_of_getElem? (i := 240) rfl)) (hw _ (List.mem_of_getElem? (i := 242) rfl)) (hw _ (List.mem_of_getElem? (i := 241) rfl)) (hw _ own_gcM) (hw _ (List.mem_of_getElem? (i := 199) rfl)) (hw _ (List.mem_of_getElem? (i := 202) rfl)) rfl E15 U15 C15 c16 rfl (hb hby at_41) (by decide) (by decide) (by decide) (W := 0) (by decide)
  have c17 : Steps p.tables e below S0 (T17.setTop (mkF m 44 #[.val (.int i0), .val (.int i1), .val (.int i2), .val (.ref la_1), .val (.ref la_4), .val (.ref la_7), .val (.ref x11), .val (.ref x13), .val (.ref a15), .unset, .unset, .unset, .unset, .unset, .unset, .unset, .unset, .unset, .unset] [.null])) := c17'
  have c18 : Steps p.tables e below S0 (T17.setTop (mkF m 51 #[.val (.int i0), .val (.int i1), .val (.int i2), .val (.ref la_1), .val (.ref la_4), .val (.ref la_7), .val (.ref x11), .val (.ref x13), .val (.ref a15), .unset, .unset, .unset, .unset, .unset, .unset, .unset, .unset, .unset, .unset] [(.ref a15)])) := c17.trans (by
    refine XS.ifnullYes X17.here hx rfl (pc0 := 44) (pc' := 49) rfl (hb hby at_44) rfl (by decide) (by decide) ?_
    refine XS.aload X17.here hx rfl (hb hby at_49) rfl rfl ?_
    exact Steps.refl _)
  obtain ⟨v19, T19, L19, X19, ⟨N19', rfl, e19⟩, c19'⟩ := own_virtU X17 hx hml hZ15 hown15 (hw _ (List.mem_of_getElem? (i := 244) rfl)) (hw _ (List.mem_of_getElem? (i := 245) rfl)) (hw _ (List.mem_of_getElem? (i := 246) rfl)) (hw _ (List.mem_of_getElem? (i := 248) rfl)) (hw _ (List.mem_of_getElem? (i := 247) rfl)) (by decide) (kc := 0) (ks := 0) (h := T15.heap) (W := 0) (b := a15) (argsL := []) (rest := []) (own_pay (R := room_1) (s := (s.setVm T15.vm)) (W := 0) (rmGM l Z a0 hw a15 x15 T15.heap ((((((O0.ext E1).ext E4).ext E7).keep K11 all0).keep K13 all0).keep K15 all0) M15) hZ15 (hw _ (List.mem_of_getElem? (i := 249) rfl)) (hw _ (List.mem_of_getElem? (i := 199) rfl)) (by decide) (by decide)) E15 c18 (lenOf pd_18 rfl) rfl (hb hby at_51) e17
  have N19 := Fr.app N15 N19'
  have c19 : Steps p.tables e below S0 (T19.setTop (mkF m 54 #[.val (.int i0), .val (.int i1), .val (.int i2), .val (.ref la_1), .val (.ref la_4), .val (.ref la_7), .val (.ref x11), .val (.ref x13), .val (.ref a15), .unset, .unset, .unset, .unset, .unset, .unset, .unset, .unset, .unset, .unset] [(.ref x15)])) := c19'
  have c20 : Steps p.tables e below S0 (T19.setTop (mkF m 65 #[.val (.int i0), .val (.int i1), .val (.int i2), .val (.ref la_1), .val (.ref la_4), .val (.ref la_7), .val (.ref x11), .val (.ref x13), .val (.ref a15), .val (.ref x15), .unset, .unset, .unset, .unset, .unset, .unset, .unset, .unset, .unset] [(.ref x11)])) := c19.trans (by
    refine XS.astore X19.here hx rfl (hb hby at_54) rfl rfl (l' := #[.val (.int i0), .val (.int i1), .val (.int i2), .val (.ref la_1), .val (.ref la_4), .val (.ref la_7), .val (.ref x11), .val (.ref x13), .val (.ref a15), .val (.ref x15), .unset, .unset, .unset, .unset, .unset, .unset, .unset, .unset, .unset]) rfl ?_
    refine XS.aload X19.here hx rfl (hb hby at_56) rfl rfl ?_
    refine XS.ifnonnullYes X19.here hx rfl (pc0 := 58) (pc' := 63) rfl (hb hby at_58) rfl (by decide) (by decide) ?_
    refine XS.aload X19.here hx rfl (hb hby at_63) rfl rfl ?_
    exact Steps.refl _)
  obtain ⟨v21, T21, L21, X21, ⟨rfl, rfl, e21⟩, c21'⟩ := own_virt X19 hx hml hZ15 hown15 (hw _ (List.mem_of_getElem? (i := 250) rfl)) (hw _ (List.mem_of_getElem? (i := 77) rfl)) (hw _ (List.mem_of_getElem? (i := 79) rfl)) (hw _ (List.mem_of_getElem? (i := 78) rfl)) (hw _ (List.mem_of_getElem? (i := 79) rfl)) (by decide) (Q := fun v h' L => v = some (.int (Int32.ofNat (cs11 : List Int32).length)) ∧ L = [] ∧ h' = T15.heap) (kc := 0) (ks := 0) (h := T15.heap) (W := 0) (b := x11) (argsL := []) (rest := []) (StrChars.Road.lenW (s := (s.setVm T15.vm)) (R := room_1) (W := 0) hZ15 (own_wl hw) (kI := 4) (hw _ (List.mem_of_getElem? (i := 2) rfl)) (cs := cs11) ((E11.keep K13).keep K15) ((V11.keep K13 nin0).keep K15 nin0) ((Cd11.keep K13 nin0).keep K15 nin0) ((Kb11.keep K13 nin0).keep K15 nin0) (StrChars.Road.codOf (n := (cs11 : List Int32).length) rfl (fun c hc => (hB11 c hc).rng.2)) (fun c hc => (hB11 c hc).rng2) (SC.ext ((((((O0.ext E1).ext E4).ext E7).keep K11 all0).keep K13 all0).keep K15 all0).2) hz (Nat.le_trans hn11 (by decide)) (by decide) (by decide)) ((E11.keep K13).keep K15) c20 (lenOf pd_7 rfl) rfl (hb hby at_65) e19
  have N21 := Fr.app N19 (Fr.nil _)
  have c21 : Steps p.tables e below S0 (T21.setTop (mkF m 68 #[.val (.int i0), .val (.int i1), .val (.int i2), .val (.ref la_1), .val (.ref la_4), .val (.ref la_7), .val (.ref x11), .val (.ref x13), .val (.ref a15), .val (.ref x15), .unset, .unset, .unset, .unset, .unset, .unset, .unset, .unset, .unset] [(.int (Int32.ofNat (cs11 : List Int32).length))])) := c21'
  have c22 : Steps p.tables e below S0 (T21.setTop (mkF m 72 #[.val (.int i0), .val (.int i1), .val (.int i2), .val (.ref la_1), .val (.ref la_4), .val (.ref la_7), .val (.ref x11), .val (.ref x13), .val (.ref a15), .val (.ref x15), .val (.int (Int32.ofNat (cs11 : List Int32).length)), .unset, .unset, .unset, .unset, .unset, .unset, .unset, .unset] [(.ref x13)])) := c21.trans (by
    refine XS.istore X21.here hx rfl (hb hby at_68) rfl (l' := #[.val (.int i0), .val (.int i1), .val (.int i2), .val (.ref la_1), .val (.ref la_4), .val (.ref la_7), .val (.ref x11), .val (.ref x13), .val (.ref a15), .val (.ref x15), .val (.int (Int32.ofNat (cs11 : List Int32).length)), .unset, .unset, .unset, .unset, .unset, .unset, .unset, .unset]) rfl ?_
    refine XS.aload X21.here hx rfl (hb hby at_70) rfl rfl ?_
    exact Steps.refl _)
  obtain ⟨v23, T23, L23, X23, ⟨rfl, rfl, e23⟩, c23'⟩ := own_virt X21 hx hml hZ15 hown15 (hw _ (List.mem_of_getElem? (i := 250) rfl)) (hw _ (List.mem_of_getElem? (i := 77) rfl)) (hw _ (List.mem_of_getElem? (i := 79) rfl)) (hw _ (List.mem_of_getElem? (i := 78) rfl)) (hw _ (List.mem_of_getElem? (i := 79) rfl)) (by decide) (Q := fun v h' L => v = some (.int (Int32.ofNat (cs13 : List Int32).length)) ∧ L = [] ∧ h' = T15.heap) (kc := 0) (ks := 0) (h := T15.heap) (W := 0) (b := x13) (argsL := []) (rest := []) (StrChars.Road.lenW (s := (s.setVm T15.vm)) (R := room_1) (W := 0) hZ15 (own_wl hw) (kI := 4) (hw _ (List.mem_of_getElem? (i := 2) rfl)) (cs := cs13) (E13.keep K15) (V13.keep K15 nin0) (Cd13.keep K15 nin0) (Kb13.keep K15 nin0) (StrChars.Road.codOf (n := (cs13 : List Int32).length) rfl (fun c hc => (hB13 c hc).rng.2)) (fun c hc => (hB13 c hc).rng2) (SC.ext ((((((O0.ext E1).ext E4).ext E7).keep K11 all0).keep K13 all0).keep K15 all0).2) hz (Nat.le_trans hn13 (by decide)) (by decide) (by decide)) (E13.keep K15) c22 (lenOf pd_7 rfl) rfl (hb hby at_72) e21
  have N23 := Fr.app N21 (Fr.nil _)
  have c23 : Steps p.tables e below S0 (T23.setTop (mkF m 75 #[.val (.int i0), .val (.int i1), .val (.int i2), .val (.ref la_1), .val (.ref la_4), .val (.ref la_7), .val (.ref x11), .val (.ref x13), .val (.ref a15), .val (.ref x15), .val (.int (Int32.ofNat (cs11 : List Int32).length)), .unset, .unset, .unset, .unset, .unset, .unset, .unset, .unset] [(.int (Int32.ofNat (cs13 : List Int32).length))])) := c23'
  have c24 : Steps p.tables e below S0 (T23.setTop (mkF m 78 #[.val (.int i0), .val (.int i1), .val (.int i2), .val (.ref la_1), .val (.ref la_4), .val (.ref la_7), .val (.ref x11), .val (.ref x13), .val (.ref a15), .val (.ref x15), .val (.int (Int32.ofNat (cs11 : List Int32).length)), .val (.int (Int32.ofNat (cs13 : List Int32).length)), .unset, .unset, .unset, .unset, .unset, .unset, .unset] [(.ref la_1)])) := c23.trans (by
    refine XS.istore X23.here hx rfl (hb hby at_75) rfl (l' := #[.val (.int i0), .val (.int i1), .val (.int i2), .val (.ref la_1), .val (.ref la_4), .val (.ref la_7), .val (.ref x11), .val (.ref x13), .val (.ref a15), .val (.ref x15), .val (.int (Int32.ofNat (cs11 : List Int32).length)), .val (.int (Int32.ofNat (cs13 : List Int32).length)), .unset, .unset, .unset, .unset, .unset, .unset, .unset]) rfl ?_
    refine XS.aloadN X23.here hx rfl (hb hby at_77) rfl rfl ?_
    exact Steps.refl _)
  obtain ⟨v25, T25, L25, X25, ⟨rfl, rfl, e25⟩, c25'⟩ := own_virt X23 hx hml hZ15 hown15 (hw _ (List.mem_of_getElem? (i := 250) rfl)) (hw _ (List.mem_of_getElem? (i := 77) rfl)) (hw _ (List.mem_of_getElem? (i := 79) rfl)) (hw _ (List.mem_of_getElem? (i := 78) rfl)) (hw _ (List.mem_of_getElem? (i := 79) rfl)) (by decide) (Q := fun v h' L => v = some (.int (Int32.ofNat (own_p : List Int32).length)) ∧ L = [] ∧ h' = T15.heap) (kc := 0) (ks := 0) (h := T15.heap) (W := 0) (b := la_1) (argsL := []) (rest := []) (StrChars.Road.lenW (s := (s.setVm T15.vm)) (R := room_1) (W := 0) hZ15 (own_wl hw) (kI := 4) (hw _ (List.mem_of_getElem? (i := 2) rfl)) (cs := own_p) (((((Ea1.ext E4).ext E7).keep K11).keep K13).keep K15) (((((Va1.ext E4).ext E7).keep K11 nin0).keep K13 nin0).keep K15 nin0) (((((Ca1.ext E4).ext E7).keep K11 nin0).keep K13 nin0).keep K15 nin0) (((((Kl3.ext E4).ext E7).keep K11 nin0).keep K13 nin0).keep K15 nin0) (StrChars.Road.codOf (n := (own_p : List Int32).length) rfl (fun c hc => (own_pC c hc).rng.2)) (fun c hc => (own_pC c hc).rng2) (SC.ext ((((((O0.ext E1).ext E4).ext E7).keep K11 all0).keep K13 all0).keep K15 all0).2) hz (by decide) (by decide) (by decide)) (((((Ea1.ext E4).ext E7).keep K11).keep K13).keep K15) c24 (lenOf pd_7 rfl) rfl (hb hby at_78) e23
  have N25 := Fr.app N23 (Fr.nil _)
  have c25 : Steps p.tables e below S0 (T25.setTop (mkF m 81 #[.val (.int i0), .val (.int i1), .val (.int i2), .val (.ref la_1), .val (.ref la_4), .val (.ref la_7), .val (.ref x11), .val (.ref x13), .val (.ref a15), .val (.ref x15), .val (.int (Int32.ofNat (cs11 : List Int32).length)), .val (.int (Int32.ofNat (cs13 : List Int32).length)), .unset, .unset, .unset, .unset, .unset, .unset, .unset] [(.int (Int32.ofNat (own_p : List Int32).length))])) := c25'
  have eq26 : (Int32.ofNat (own_p : List Int32).length) = (18 : Int32) := rfl
  have c26 : Steps p.tables e below S0 (T25.setTop (mkF m 81 #[.val (.int i0), .val (.int i1), .val (.int i2), .val (.ref la_1), .val (.ref la_4), .val (.ref la_7), .val (.ref x11), .val (.ref x13), .val (.ref a15), .val (.ref x15), .val (.int (Int32.ofNat (cs11 : List Int32).length)), .val (.int (Int32.ofNat (cs13 : List Int32).length)), .unset, .unset, .unset, .unset, .unset, .unset, .unset] [(.int (18 : Int32))])) := by have q := c25; rw [eq26] at q; exact q
  have c27 : Steps p.tables e below S0 (T25.setTop (mkF m 85 #[.val (.int i0), .val (.int i1), .val (.int i2), .val (.ref la_1), .val (.ref la_4), .val (.ref la_7), .val (.ref x11), .val (.ref x13), .val (.ref a15), .val (.ref x15), .val (.int (Int32.ofNat (cs11 : List Int32).length)), .val (.int (Int32.ofNat (cs13 : List Int32).length)), .val (.int (18 : Int32)), .unset, .unset, .unset, .unset, .unset, .unset] [(.ref la_4)])) := c26.trans (by
    refine XS.istore X25.here hx rfl (hb hby at_81) rfl (l' := #[.val (.int i0), .val (.int i1), .val (.int i2), .val (.ref la_1), .val (.ref la_4), .val (.ref la_7), .val (.ref x11), .val (.ref x13), .val (.ref a15), .val (.ref x15), .val (.int (Int32.ofNat (cs11 : List Int32).length)), .val (.int (Int32.ofNat (cs13 : List Int32).length)), .val (.int (18 : Int32)), .unset, .unset, .unset, .unset, .unset, .unset]) rfl ?_
    refine XS.aload X25.here hx rfl (hb hby at_83) rfl rfl ?_
    exact Steps.refl _)
  obtain ⟨v28, T28, L28, X28, ⟨rfl, rfl, e28⟩, c28'⟩ := own_virt X25 hx hml hZ15 hown15 (hw _ (List.mem_of_getElem? (i := 250) rfl)) (hw _ (List.mem_of_getElem? (i := 77) rfl)) (hw _ (List.mem_of_getElem? (i := 79) rfl)) (hw _ (List.mem_of_getElem? (i := 78) rfl)) (hw _ (List.mem_of_getElem? (i := 79) rfl)) (by decide) (Q := fun v h' L => v = some (.int (Int32.ofNat (own_m : List Int32).length)) ∧ L = [] ∧ h' = T15.heap) (kc := 0) (ks := 0) (h := T15.heap) (W := 0) (b := la_4) (argsL := []) (rest := []) (StrChars.Road.lenW (s := (s.setVm T15.vm)) (R := room_1) (W := 0) hZ15 (own_wl hw) (kI := 4) (hw _ (List.mem_of_getElem? (i := 2) rfl)) (cs := own_m) ((((Ea4.ext E7).keep K11).keep K13).keep K15) ((((Va4.ext E7).keep K11 nin0).keep K13 nin0).keep K15 nin0) ((((Ca4.ext E7).keep K11 nin0).keep K13 nin0).keep K15 nin0) ((((Kl6.ext E7).keep K11 nin0).keep K13 nin0).keep K15 nin0) (StrChars.Road.codOf (n := (own_m : List Int32).length) rfl (fun c hc => (own_mC c hc).rng.2)) (fun c hc => (own_mC c hc).rng2) (SC.ext ((((((O0.ext E1).ext E4).ext E7).keep K11 all0).keep K13 all0).keep K15 all0).2) hz (by decide) (by decide) (by decide)) ((((Ea4.ext E7).keep K11).keep K13).keep K15) c27 (lenOf pd_7 rfl) rfl (hb hby at_85) e25
  have N28 := Fr.app N25 (Fr.nil _)
  have c28 : Steps p.tables e below S0 (T28.setTop (mkF m 88 #[.val (.int i0), .val (.int i1), .val (.int i2), .val (.ref la_1), .val (.ref la_4), .val (.ref la_7), .val (.ref x11), .val (.ref x13), .val (.ref a15), .val (.ref x15), .val (.int (Int32.ofNat (cs11 : List Int32).length)), .val (.int (Int32.ofNat (cs13 : List Int32).length)), .val (.int (18 : Int32)), .unset, .unset, .unset, .unset, .unset, .unset] [(.int (Int32.ofNat (own_m : List Int32).length))])) := c28'
  have eq29 : (Int32.ofNat (own_m : List Int32).length) = (10 : Int32) := rfl
  have c29 : Steps p.tables e below S0 (T28.setTop (mkF m 88 #[.val (.int i0), .val (.int i1), .val (.int i2), .val (.ref la_1), .val (.ref la_4), .val (.ref la_7), .val (.ref x11), .val (.ref x13), .val (.ref a15), .val (.ref x15), .val (.int (Int32.ofNat (cs11 : List Int32).length)), .val (.int (Int32.ofNat (cs13 : List Int32).length)), .val (.int (18 : Int32)), .unset, .unset, .unset, .unset, .unset, .unset] [(.int (10 : Int32))])) := by have q := c28; rw [eq29] at q; exact q
  have c30 : Steps p.tables e below S0 (T28.setTop (mkF m 92 #[.val (.int i0), .val (.int i1), .val (.int i2), .val (.ref la_1), .val (.ref la_4), .val (.ref la_7), .val (.ref x11), .val (.ref x13), .val (.ref a15), .val (.ref x15), .val (.int (Int32.ofNat (cs11 : List Int32).length)), .val (.int (Int32.ofNat (cs13 : List Int32).length)), .val (.int (18 : Int32)), .val (.int (10 : Int32)), .unset, .unset, .unset, .unset, .unset] [(.ref la_7)])) := c29.trans (by
    refine XS.istore X28.here hx rfl (hb hby at_88) rfl (l' := #[.val (.int i0), .val (.int i1), .val (.int i2), .val (.ref la_1), .val (.ref la_4), .val (.ref la_7), .val (.ref x11), .val (.ref x13), .val (.ref a15), .val (.ref x15), .val (.int (Int32.ofNat (cs11 : List Int32).length)), .val (.int (Int32.ofNat (cs13 : List Int32).length)), .val (.int (18 : Int32)), .val (.int (10 : Int32)), .unset, .unset, .unset, .unset, .unset]) rfl ?_
    refine XS.aload X28.here hx rfl (hb hby at_90) rfl rfl ?_
    exact Steps.refl _)
  obtain ⟨v31, T31, L31, X31, ⟨rfl, rfl, e31⟩, c31'⟩ := own_virt X28 hx hml hZ15 hown15 (hw _ (List.mem_of_getElem? (i := 250) rfl)) (hw _ (List.mem_of_getElem? (i := 77) rfl)) (hw _ (List.mem_of_getElem? (i := 79) rfl)) (hw _ (List.mem_of_getElem? (i := 78) rfl)) (hw _ (List.mem_of_getElem? (i := 79) rfl)) (by decide) (Q := fun v h' L => v = some (.int (Int32.ofNat (own_s : List Int32).length)) ∧ L = [] ∧ h' = T15.heap) (kc := 0) (ks := 0) (h := T15.heap) (W := 0) (b := la_7) (argsL := []) (rest := []) (StrChars.Road.lenW (s := (s.setVm T15.vm)) (R := room_1) (W := 0) hZ15 (own_wl hw) (kI := 4) (hw _ (List.mem_of_getElem? (i := 2) rfl)) (cs := own_s) (((Ea7.keep K11).keep K13).keep K15) (((Va7.keep K11 nin0).keep K13 nin0).keep K15 nin0) (((Ca7.keep K11 nin0).keep K13 nin0).keep K15 nin0) (((Kl9.keep K11 nin0).keep K13 nin0).keep K15 nin0) (StrChars.Road.codOf (n := (own_s : List Int32).length) rfl (fun c hc => (own_sC c hc).rng.2)) (fun c hc => (own_sC c hc).rng2) (SC.ext ((((((O0.ext E1).ext E4).ext E7).keep K11 all0).keep K13 all0).keep K15 all0).2) hz (by decide) (by decide) (by decide)) (((Ea7.keep K11).keep K13).keep K15) c30 (lenOf pd_7 rfl) rfl (hb hby at_92) e28
  have N31 := Fr.app N28 (Fr.nil _)
  have c31 : Steps p.tables e below S0 (T31.setTop (mkF m 95 #[.val (.int i0), .val (.int i1), .val (.int i2), .val (.ref la_1), .val (.ref la_4), .val (.ref la_7), .val (.ref x11), .val (.ref x13), .val (.ref a15), .val (.ref x15), .val (.int (Int32.ofNat (cs11 : List Int32).length)), .val (.int (Int32.ofNat (cs13 : List Int32).length)), .val (.int (18 : Int32)), .val (.int (10 : Int32)), .unset, .unset, .unset, .unset, .unset] [(.int (Int32.ofNat (own_s : List Int32).length))])) := c31'
  have eq32 : (Int32.ofNat (own_s : List Int32).length) = (61 : Int32) := rfl
  have c32 : Steps p.tables e below S0 (T31.setTop (mkF m 95 #[.val (.int i0), .val (.int i1), .val (.int i2), .val (.ref la_1), .val (.ref la_4), .val (.ref la_7), .val (.ref x11), .val (.ref x13), .val (.ref a15), .val (.ref x15), .val (.int (Int32.ofNat (cs11 : List Int32).length)), .val (.int (Int32.ofNat (cs13 : List Int32).length)), .val (.int (18 : Int32)), .val (.int (10 : Int32)), .unset, .unset, .unset, .unset, .unset] [(.int (61 : Int32))])) := by have q := c31; rw [eq32] at q; exact q
  have c33 : Steps p.tables e below S0 (T31.setTop (mkF m 99 #[.val (.int i0), .val (.int i1), .val (.int i2), .val (.ref la_1), .val (.ref la_4), .val (.ref la_7), .val (.ref x11), .val (.ref x13), .val (.ref a15), .val (.ref x15), .val (.int (Int32.ofNat (cs11 : List Int32).length)), .val (.int (Int32.ofNat (cs13 : List Int32).length)), .val (.int (18 : Int32)), .val (.int (10 : Int32)), .val (.int (61 : Int32)), .unset, .unset, .unset, .unset] [(.ref x15)])) := c32.trans (by
    refine XS.istore X31.here hx rfl (hb hby at_95) rfl (l' := #[.val (.int i0), .val (.int i1), .val (.int i2), .val (.ref la_1), .val (.ref la_4), .val (.ref la_7), .val (.ref x11), .val (.ref x13), .val (.ref a15), .val (.ref x15), .val (.int (Int32.ofNat (cs11 : List Int32).length)), .val (.int (Int32.ofNat (cs13 : List Int32).length)), .val (.int (18 : Int32)), .val (.int (10 : Int32)), .val (.int (61 : Int32)), .unset, .unset, .unset, .unset]) rfl ?_
    refine XS.aload X31.here hx rfl (hb hby at_97) rfl rfl ?_
    exact Steps.refl _)
  obtain ⟨v34, T34, L34, X34, ⟨rfl, rfl, e34⟩, c34'⟩ := own_virt X31 hx hml hZ15 hown15 (hw _ (List.mem_of_getElem? (i := 250) rfl)) (hw _ (List.mem_of_getElem? (i := 77) rfl)) (hw _ (List.mem_of_getElem? (i := 79) rfl)) (hw _ (List.mem_of_getElem? (i := 78) rfl)) (hw _ (List.mem_of_getElem? (i := 79) rfl)) (by decide) (Q := fun v h' L => v = some (.int (Int32.ofNat ((own_msg cs11 cs13) : List Int32).length)) ∧ L = [] ∧ h' = T15.heap) (kc := 0) (ks := 0) (h := T15.heap) (W := 0) (b := x15) (argsL := []) (rest := []) (StrChars.Road.lenW (s := (s.setVm T15.vm)) (R := room_1) (W := 0) hZ15 (own_wl hw) (kI := 4) (hw _ (List.mem_of_getElem? (i := 2) rfl)) (cs := (own_msg cs11 cs13)) Ex15 Vx15 Cx15 Kx15 (StrChars.Road.codOf (n := ((own_msg cs11 cs13) : List Int32).length) rfl (fun c hc => ((own_msgC hB11 hB13) c hc).rng.2)) (fun c hc => ((own_msgC hB11 hB13) c hc).rng2) (SC.ext ((((((O0.ext E1).ext E4).ext E7).keep K11 all0).keep K13 all0).keep K15 all0).2) hz (by rw [own_msgL]; omega) (by decide) (by decide)) Ex15 c33 (lenOf pd_7 rfl) rfl (hb hby at_99) e31
  have N34 := Fr.app N31 (Fr.nil _)
  have c34 : Steps p.tables e below S0 (T34.setTop (mkF m 102 #[.val (.int i0), .val (.int i1), .val (.int i2), .val (.ref la_1), .val (.ref la_4), .val (.ref la_7), .val (.ref x11), .val (.ref x13), .val (.ref a15), .val (.ref x15), .val (.int (Int32.ofNat (cs11 : List Int32).length)), .val (.int (Int32.ofNat (cs13 : List Int32).length)), .val (.int (18 : Int32)), .val (.int (10 : Int32)), .val (.int (61 : Int32)), .unset, .unset, .unset, .unset] [(.int (Int32.ofNat ((own_msg cs11 cs13) : List Int32).length))])) := c34'
  have c35 : Steps p.tables e below S0 (T34.setTop (mkF m 116 #[.val (.int i0), .val (.int i1), .val (.int i2), .val (.ref la_1), .val (.ref la_4), .val (.ref la_7), .val (.ref x11), .val (.ref x13), .val (.ref a15), .val (.ref x15), .val (.int (Int32.ofNat (cs11 : List Int32).length)), .val (.int (Int32.ofNat (cs13 : List Int32).length)), .val (.int (18 : Int32)), .val (.int (10 : Int32)), .val (.int (61 : Int32)), .unset, .unset, .unset, .unset] [(.int (((((18 : Int32) + (Int32.ofNat (cs11 : List Int32).length)) + (10 : Int32)) + (Int32.ofNat (cs13 : List Int32).length)) + (61 : Int32))), (.int (Int32.ofNat ((own_msg cs11 cs13) : List Int32).length))])) := c34.trans (by
    refine XS.iload X34.here hx rfl (hb hby at_102) rfl ?_
    refine XS.iload X34.here hx rfl (hb hby at_104) rfl ?_
    refine XS.iadd X34.here hx rfl (hb hby at_106) rfl ?_
    refine XS.iload X34.here hx rfl (hb hby at_107) rfl ?_
    refine XS.iadd X34.here hx rfl (hb hby at_109) rfl ?_
    refine XS.iload X34.here hx rfl (hb hby at_110) rfl ?_
    refine XS.iadd X34.here hx rfl (hb hby at_112) rfl ?_
    refine XS.iload X34.here hx rfl (hb hby at_113) rfl ?_
    refine XS.iadd X34.here hx rfl (hb hby at_115) rfl ?_
    show Steps p.tables e below (T34.setTop (mkF m 116 #[.val (.int i0), .val (.int i1), .val (.int i2), .val (.ref la_1), .val (.ref la_4), .val (.ref la_7), .val (.ref x11), .val (.ref x13), .val (.ref a15), .val (.ref x15), .val (.int (Int32.ofNat (cs11 : List Int32).length)), .val (.int (Int32.ofNat (cs13 : List Int32).length)), .val (.int (18 : Int32)), .val (.int (10 : Int32)), .val (.int (61 : Int32)), .unset, .unset, .unset, .unset] [(.int (((((18 : Int32) + (Int32.ofNat (cs11 : List Int32).length)) + (10 : Int32)) + (Int32.ofNat (cs13 : List Int32).length)) + (61 : Int32))), (.int (Int32.ofNat ((own_msg cs11 cs13) : List Int32).length))])) _
    exact Steps.refl _)
  have eq36 : (((((18 : Int32) + (Int32.ofNat (cs11 : List Int32).length)) + (10 : Int32)) + (Int32.ofNat (cs13 : List Int32).length)) + (61 : Int32)) = (Int32.ofNat (18 + (cs11 : List Int32).length + 10 + (cs13 : List Int32).length + 61)) := own_s5 _ _
  have c36 : Steps p.tables e below S0 (T34.setTop (mkF m 116 #[.val (.int i0), .val (.int i1), .val (.int i2), .val (.ref la_1), .val (.ref la_4), .val (.ref la_7), .val (.ref x11), .val (.ref x13), .val (.ref a15), .val (.ref x15), .val (.int (Int32.ofNat (cs11 : List Int32).length)), .val (.int (Int32.ofNat (cs13 : List Int32).length)), .val (.int (18 : Int32)), .val (.int (10 : Int32)), .val (.int (61 : Int32)), .unset, .unset, .unset, .unset] [(.int (Int32.ofNat (18 + (cs11 : List Int32).length + 10 + (cs13 : List Int32).length + 61))), (.int (Int32.ofNat ((own_msg cs11 cs13) : List Int32).length))])) := by have q := c35; rw [eq36] at q; exact q
  have eq37 : (Int32.ofNat ((own_msg cs11 cs13) : List Int32).length) = (Int32.ofNat (18 + (cs11 : List Int32).length + 10 + (cs13 : List Int32).length + 61)) := by rw [own_msgL]
  have c37 : Steps p.tables e below S0 (T34.setTop (mkF m 116 #[.val (.int i0), .val (.int i1), .val (.int i2), .val (.ref la_1), .val (.ref la_4), .val (.ref la_7), .val (.ref x11), .val (.ref x13), .val (.ref a15), .val (.ref x15), .val (.int (Int32.ofNat (cs11 : List Int32).length)), .val (.int (Int32.ofNat (cs13 : List Int32).length)), .val (.int (18 : Int32)), .val (.int (10 : Int32)), .val (.int (61 : Int32)), .unset, .unset, .unset, .unset] [(.int (Int32.ofNat (18 + (cs11 : List Int32).length + 10 + (cs13 : List Int32).length + 61))), (.int (Int32.ofNat (18 + (cs11 : List Int32).length + 10 + (cs13 : List Int32).length + 61)))])) := by have q := c36; rw [eq37] at q; exact q
  have c39 : Steps p.tables e below S0 (T34.setTop (mkF m 132 #[.val (.int i0), .val (.int i1), .val (.int i2), .val (.ref la_1), .val (.ref la_4), .val (.ref la_7), .val (.ref x11), .val (.ref x13), .val (.ref a15), .val (.ref x15), .val (.int (Int32.ofNat (cs11 : List Int32).length)), .val (.int (Int32.ofNat (cs13 : List Int32).length)), .val (.int (18 : Int32)), .val (.int (10 : Int32)), .val (.int (61 : Int32)), .val (.int (i2 &&& (2147483647 : Int32))), .unset, .unset, .unset] [(.int ((i2 &&& (2147483647 : Int32)) % (18 : Int32)))])) := c37.trans (by
    refine XS.icmpYes X34.here hx rfl (pc0 := 116) (pc' := 121) rfl (hb hby at_116) rfl (teq (rfl : (Int32.ofNat (18 + (cs11 : List Int32).length + 10 + (cs13 : List Int32).length + 61)) = (Int32.ofNat (18 + (cs11 : List Int32).length + 10 + (cs13 : List Int32).length + 61)))).1 (by decide) (by decide) ?_
    refine XS.iloadN X34.here hx rfl (hb hby at_121) rfl ?_
    refine X34.ldcInt hx hown15 (mvT hZ15 (hw _ (List.mem_of_getElem? (i := 251) rfl))) (g := (mkF m 122 #[.val (.int i0), .val (.int i1), .val (.int i2), .val (.ref la_1), .val (.ref la_4), .val (.ref la_7), .val (.ref x11), .val (.ref x13), .val (.ref a15), .val (.ref x15), .val (.int (Int32.ofNat (cs11 : List Int32).length)), .val (.int (Int32.ofNat (cs13 : List Int32).length)), .val (.int (18 : Int32)), .val (.int (10 : Int32)), .val (.int (61 : Int32)), .unset, .unset, .unset, .unset] [(.int i2)])) rfl (hb hby at_122) _ ?_
    refine XS.iand X34.here hx rfl (hb hby at_124) rfl ?_
    refine XS.istore X34.here hx rfl (hb hby at_125) rfl (l' := #[.val (.int i0), .val (.int i1), .val (.int i2), .val (.ref la_1), .val (.ref la_4), .val (.ref la_7), .val (.ref x11), .val (.ref x13), .val (.ref a15), .val (.ref x15), .val (.int (Int32.ofNat (cs11 : List Int32).length)), .val (.int (Int32.ofNat (cs13 : List Int32).length)), .val (.int (18 : Int32)), .val (.int (10 : Int32)), .val (.int (61 : Int32)), .val (.int (i2 &&& (2147483647 : Int32))), .unset, .unset, .unset]) rfl ?_
    refine XS.iload X34.here hx rfl (hb hby at_127) rfl ?_
    refine XS.iload X34.here hx rfl (hb hby at_129) rfl ?_
    refine iremM X34 hx rfl (hb hby at_131) rfl (by decide) ?_
    exact Steps.refl _)
  obtain ⟨k40, hj40, ej40⟩ := own_remN i2 18 (by decide) (by omega)
  have eq41 : ((i2 &&& (2147483647 : Int32)) % (18 : Int32)) = (Int32.ofNat k40) := ej40
  have c41 : Steps p.tables e below S0 (T34.setTop (mkF m 132 #[.val (.int i0), .val (.int i1), .val (.int i2), .val (.ref la_1), .val (.ref la_4), .val (.ref la_7), .val (.ref x11), .val (.ref x13), .val (.ref a15), .val (.ref x15), .val (.int (Int32.ofNat (cs11 : List Int32).length)), .val (.int (Int32.ofNat (cs13 : List Int32).length)), .val (.int (18 : Int32)), .val (.int (10 : Int32)), .val (.int (61 : Int32)), .val (.int (i2 &&& (2147483647 : Int32))), .unset, .unset, .unset] [(.int (Int32.ofNat k40))])) := by have q := c39; rw [eq41] at q; exact q
  have c42 : Steps p.tables e below S0 (T34.setTop (mkF m 138 #[.val (.int i0), .val (.int i1), .val (.int i2), .val (.ref la_1), .val (.ref la_4), .val (.ref la_7), .val (.ref x11), .val (.ref x13), .val (.ref a15), .val (.ref x15), .val (.int (Int32.ofNat (cs11 : List Int32).length)), .val (.int (Int32.ofNat (cs13 : List Int32).length)), .val (.int (18 : Int32)), .val (.int (10 : Int32)), .val (.int (61 : Int32)), .val (.int (i2 &&& (2147483647 : Int32))), .val (.int (Int32.ofNat k40)), .unset, .unset] [(.int (Int32.ofNat k40)), (.ref x15)])) := c41.trans (by
    refine XS.istore X34.here hx rfl (hb hby at_132) rfl (l' := #[.val (.int i0), .val (.int i1), .val (.int i2), .val (.ref la_1), .val (.ref la_4), .val (.ref la_7), .val (.ref x11), .val (.ref x13), .val (.ref a15), .val (.ref x15), .val (.int (Int32.ofNat (cs11 : List Int32).length)), .val (.int (Int32.ofNat (cs13 : List Int32).length)), .val (.int (18 : Int32)), .val (.int (10 : Int32)), .val (.int (61 : Int32)), .val (.int (i2 &&& (2147483647 : Int32))), .val (.int (Int32.ofNat k40)), .unset, .unset]) rfl ?_
    refine XS.aload X34.here hx rfl (hb hby at_134) rfl rfl ?_
    refine XS.iload X34.here hx rfl (hb hby at_136) rfl ?_
    exact Steps.refl _)
  obtain ⟨v43, T43, L43, X43, ⟨rfl, rfl, e43⟩, c43'⟩ := own_virt X34 hx hml hZ15 hown15 (hw _ (List.mem_of_getElem? (i := 252) rfl)) (hw _ (List.mem_of_getElem? (i := 253) rfl)) (hw _ (List.mem_of_getElem? (i := 255) rfl)) (hw _ (List.mem_of_getElem? (i := 254) rfl)) (hw _ (List.mem_of_getElem? (i := 255) rfl)) (by decide) (Q := fun v h' L => v = some (.int (own_at9 (own_msg cs11 cs13) k40)) ∧ L = [] ∧ h' = T15.heap) (kc := 0) (ks := 0) (h := T15.heap) (W := 0) (b := x15) (argsL := [(.int (Int32.ofNat k40))]) (rest := []) (StrChars.Road.chN (s := (s.setVm T15.vm)) (R := room_1) (W := 0) hZ15 (own_wch hw) (kI := 4) (hw _ (List.mem_of_getElem? (i := 2) rfl)) (cs := (own_msg cs11 cs13)) Ex15 Vx15 Cx15 Kx15 (StrChars.Road.codOf (n := ((own_msg cs11 cs13) : List Int32).length) rfl (fun c hc => ((own_msgC hB11 hB13) c hc).rng.2)) (fun c hc => ((own_msgC hB11 hB13) c hc).rng2) (SC.ext ((((((O0.ext E1).ext E4).ext E7).keep K11 all0).keep K13 all0).keep K15 all0).2) hz (SF.ext ((((((O0.ext E1).ext E4).ext E7).keep K11 all0).keep K13 all0).keep K15 all0).2) hfm (by rw [own_msgL]; omega) (i := k40) (by first | omega | (rw [own_msgL]; omega) | (rw [own_pN]; omega) | (rw [own_mN]; omega) | (rw [own_sN]; omega)) rfl (by decide) (by decide)) Ex15 c42 (lenOf pd_23 rfl) rfl (hb hby at_138) e34
  have N43 := Fr.app N34 (Fr.nil _)
  have c43 : Steps p.tables e below S0 (T43.setTop (mkF m 141 #[.val (.int i0), .val (.int i1), .val (.int i2), .val (.ref la_1), .val (.ref la_4), .val (.ref la_7), .val (.ref x11), .val (.ref x13), .val (.ref a15), .val (.ref x15), .val (.int (Int32.ofNat (cs11 : List Int32).length)), .val (.int (Int32.ofNat (cs13 : List Int32).length)), .val (.int (18 : Int32)), .val (.int (10 : Int32)), .val (.int (61 : Int32)), .val (.int (i2 &&& (2147483647 : Int32))), .val (.int (Int32.ofNat k40)), .unset, .unset] [(.int (own_at9 (own_msg cs11 cs13) k40))])) := c43'
  have c44 : Steps p.tables e below S0 (T43.setTop (mkF m 144 #[.val (.int i0), .val (.int i1), .val (.int i2), .val (.ref la_1), .val (.ref la_4), .val (.ref la_7), .val (.ref x11), .val (.ref x13), .val (.ref a15), .val (.ref x15), .val (.int (Int32.ofNat (cs11 : List Int32).length)), .val (.int (Int32.ofNat (cs13 : List Int32).length)), .val (.int (18 : Int32)), .val (.int (10 : Int32)), .val (.int (61 : Int32)), .val (.int (i2 &&& (2147483647 : Int32))), .val (.int (Int32.ofNat k40)), .unset, .unset] [(.int (Int32.ofNat k40)), (.ref la_1), (.int (own_at9 (own_msg cs11 cs13) k40))])) := c43.trans (by
    refine XS.aloadN X43.here hx rfl (hb hby at_141) rfl rfl ?_
    refine XS.iload X43.here hx rfl (hb hby at_142) rfl ?_
    exact Steps.refl _)
  obtain ⟨v45, T45, L45, X45, ⟨rfl, rfl, e45⟩, c45'⟩ := own_virt X43 hx hml hZ15 hown15 (hw _ (List.mem_of_getElem? (i := 252) rfl)) (hw _ (List.mem_of_getElem? (i := 253) rfl)) (hw _ (List.mem_of_getElem? (i := 255) rfl)) (hw _ (List.mem_of_getElem? (i := 254) rfl)) (hw _ (List.mem_of_getElem? (i := 255) rfl)) (by decide) (Q := fun v h' L => v = some (.int (own_at9 own_p k40)) ∧ L = [] ∧ h' = T15.heap) (kc := 0) (ks := 0) (h := T15.heap) (W := 1) (b := la_1) (argsL := [(.int (Int32.ofNat k40))]) (rest := [(.int (own_at9 (own_msg cs11 cs13) k40))]) (StrChars.Road.chN (s := (s.setVm T15.vm)) (R := room_1) (W := 1) hZ15 (own_wch hw) (kI := 4) (hw _ (List.mem_of_getElem? (i := 2) rfl)) (cs := own_p) (((((Ea1.ext E4).ext E7).keep K11).keep K13).keep K15) (((((Va1.ext E4).ext E7).keep K11 nin0).keep K13 nin0).keep K15 nin0) (((((Ca1.ext E4).ext E7).keep K11 nin0).keep K13 nin0).keep K15 nin0) (((((Kl3.ext E4).ext E7).keep K11 nin0).keep K13 nin0).keep K15 nin0) (StrChars.Road.codOf (n := (own_p : List Int32).length) rfl (fun c hc => (own_pC c hc).rng.2)) (fun c hc => (own_pC c hc).rng2) (SC.ext ((((((O0.ext E1).ext E4).ext E7).keep K11 all0).keep K13 all0).keep K15 all0).2) hz (SF.ext ((((((O0.ext E1).ext E4).ext E7).keep K11 all0).keep K13 all0).keep K15 all0).2) hfm (by decide) (i := k40) (by first | omega | (rw [own_msgL]; omega) | (rw [own_pN]; omega) | (rw [own_mN]; omega) | (rw [own_sN]; omega)) rfl (by decide) (by decide)) (((((Ea1.ext E4).ext E7).keep K11).keep K13).keep K15) c44 (lenOf pd_23 rfl) rfl (hb hby at_144) e43
  have N45 := Fr.app N43 (Fr.nil _)
  have c45 : Steps p.tables e below S0 (T45.setTop (mkF m 147 #[.val (.int i0), .val (.int i1), .val (.int i2), .val (.ref la_1), .val (.ref la_4), .val (.ref la_7), .val (.ref x11), .val (.ref x13), .val (.ref a15), .val (.ref x15), .val (.int (Int32.ofNat (cs11 : List Int32).length)), .val (.int (Int32.ofNat (cs13 : List Int32).length)), .val (.int (18 : Int32)), .val (.int (10 : Int32)), .val (.int (61 : Int32)), .val (.int (i2 &&& (2147483647 : Int32))), .val (.int (Int32.ofNat k40)), .unset, .unset] [(.int (own_at9 own_p k40)), (.int (own_at9 (own_msg cs11 cs13) k40))])) := c45'
  have c46 : Steps p.tables e below S0 (T45.setTop (mkF m 154 #[.val (.int i0), .val (.int i1), .val (.int i2), .val (.ref la_1), .val (.ref la_4), .val (.ref la_7), .val (.ref x11), .val (.ref x13), .val (.ref a15), .val (.ref x15), .val (.int (Int32.ofNat (cs11 : List Int32).length)), .val (.int (Int32.ofNat (cs13 : List Int32).length)), .val (.int (18 : Int32)), .val (.int (10 : Int32)), .val (.int (61 : Int32)), .val (.int (i2 &&& (2147483647 : Int32))), .val (.int (Int32.ofNat k40)), .unset, .unset] [(.int (Int32.ofNat (cs11 : List Int32).length))])) := c45.trans (by
    refine XS.icmpYes X45.here hx rfl (pc0 := 147) (pc' := 152) rfl (hb hby at_147) rfl (teq (own_m1 _ _ hj40)).1 (by decide) (by decide) ?_
    refine XS.iload X45.here hx rfl (hb hby at_152) rfl ?_
    exact Steps.refl _)
  rcases Nat.eq_zero_or_pos (cs11 : List Int32).length with zk0 | zkp
  · skip
    have c47 : Steps p.tables e below S0 (T45.setTop (mkF m 191 #[.val (.int i0), .val (.int i1), .val (.int i2), .val (.ref la_1), .val (.ref la_4), .val (.ref la_7), .val (.ref x11), .val (.ref x13), .val (.ref a15), .val (.ref x15), .val (.int (Int32.ofNat (cs11 : List Int32).length)), .val (.int (Int32.ofNat (cs13 : List Int32).length)), .val (.int (18 : Int32)), .val (.int (10 : Int32)), .val (.int (61 : Int32)), .val (.int (i2 &&& (2147483647 : Int32))), .val (.int (Int32.ofNat k40)), .unset, .unset] [(.int ((i2 &&& (2147483647 : Int32)) % (10 : Int32)))])) := c46.trans (by
      refine XS.ifYes X45.here hx rfl (pc0 := 154) (pc' := 186) rfl (hb hby at_154) rfl ((if0 _ _).trans (flt (by rw [zk0]; decide)).2.2.2) (by decide) (by decide) ?_
      refine XS.iload X45.here hx rfl (hb hby at_186) rfl ?_
      refine XS.iload X45.here hx rfl (hb hby at_188) rfl ?_
      refine iremM X45 hx rfl (hb hby at_190) rfl (by decide) ?_
      exact Steps.refl _)
    obtain ⟨k48, hj48, ej48⟩ := own_remN i2 10 (by decide) (by omega)
    have eq49 : ((i2 &&& (2147483647 : Int32)) % (10 : Int32)) = (Int32.ofNat k48) := ej48
    have c49 : Steps p.tables e below S0 (T45.setTop (mkF m 191 #[.val (.int i0), .val (.int i1), .val (.int i2), .val (.ref la_1), .val (.ref la_4), .val (.ref la_7), .val (.ref x11), .val (.ref x13), .val (.ref a15), .val (.ref x15), .val (.int (Int32.ofNat (cs11 : List Int32).length)), .val (.int (Int32.ofNat (cs13 : List Int32).length)), .val (.int (18 : Int32)), .val (.int (10 : Int32)), .val (.int (61 : Int32)), .val (.int (i2 &&& (2147483647 : Int32))), .val (.int (Int32.ofNat k40)), .unset, .unset] [(.int (Int32.ofNat k48))])) := by have q := c47; rw [eq49] at q; exact q
    have c50 : Steps p.tables e below S0 (T45.setTop (mkF m 203 #[.val (.int i0), .val (.int i1), .val (.int i2), .val (.ref la_1), .val (.ref la_4), .val (.ref la_7), .val (.ref x11), .val (.ref x13), .val (.ref a15), .val (.ref x15), .val (.int (Int32.ofNat (cs11 : List Int32).length)), .val (.int (Int32.ofNat (cs13 : List Int32).length)), .val (.int (18 : Int32)), .val (.int (10 : Int32)), .val (.int (61 : Int32)), .val (.int (i2 &&& (2147483647 : Int32))), .val (.int (Int32.ofNat k40)), .val (.int (Int32.ofNat k48)), .unset] [(.int (((18 : Int32) + (Int32.ofNat (cs11 : List Int32).length)) + (Int32.ofNat k48))), (.ref x15)])) := c49.trans (by
      refine XS.istore X45.here hx rfl (hb hby at_191) rfl (l' := #[.val (.int i0), .val (.int i1), .val (.int i2), .val (.ref la_1), .val (.ref la_4), .val (.ref la_7), .val (.ref x11), .val (.ref x13), .val (.ref a15), .val (.ref x15), .val (.int (Int32.ofNat (cs11 : List Int32).length)), .val (.int (Int32.ofNat (cs13 : List Int32).length)), .val (.int (18 : Int32)), .val (.int (10 : Int32)), .val (.int (61 : Int32)), .val (.int (i2 &&& (2147483647 : Int32))), .val (.int (Int32.ofNat k40)), .val (.int (Int32.ofNat k48)), .unset]) rfl ?_
      refine XS.aload X45.here hx rfl (hb hby at_193) rfl rfl ?_
      refine XS.iload X45.here hx rfl (hb hby at_195) rfl ?_
      refine XS.iload X45.here hx rfl (hb hby at_197) rfl ?_
      refine XS.iadd X45.here hx rfl (hb hby at_199) rfl ?_
      refine XS.iload X45.here hx rfl (hb hby at_200) rfl ?_
      refine XS.iadd X45.here hx rfl (hb hby at_202) rfl ?_
      exact Steps.refl _)
    have eq51 : (((18 : Int32) + (Int32.ofNat (cs11 : List Int32).length)) + (Int32.ofNat k48)) = (Int32.ofNat (18 + (cs11 : List Int32).length + k48)) := own_s2 _ _
    have c51 : Steps p.tables e below S0 (T45.setTop (mkF m 203 #[.val (.int i0), .val (.int i1), .val (.int i2), .val (.ref la_1), .val (.ref la_4), .val (.ref la_7), .val (.ref x11), .val (.ref x13), .val (.ref a15), .val (.ref x15), .val (.int (Int32.ofNat (cs11 : List Int32).length)), .val (.int (Int32.ofNat (cs13 : List Int32).length)), .val (.int (18 : Int32)), .val (.int (10 : Int32)), .val (.int (61 : Int32)), .val (.int (i2 &&& (2147483647 : Int32))), .val (.int (Int32.ofNat k40)), .val (.int (Int32.ofNat k48)), .unset] [(.int (Int32.ofNat (18 + (cs11 : List Int32).length + k48))), (.ref x15)])) := by have q := c50; rw [eq51] at q; exact q
    obtain ⟨v52, T52, L52, X52, ⟨rfl, rfl, e52⟩, c52'⟩ := own_virt X45 hx hml hZ15 hown15 (hw _ (List.mem_of_getElem? (i := 252) rfl)) (hw _ (List.mem_of_getElem? (i := 253) rfl)) (hw _ (List.mem_of_getElem? (i := 255) rfl)) (hw _ (List.mem_of_getElem? (i := 254) rfl)) (hw _ (List.mem_of_getElem? (i := 255) rfl)) (by decide) (Q := fun v h' L => v = some (.int (own_at9 (own_msg cs11 cs13) (18 + (cs11 : List Int32).length + k48))) ∧ L = [] ∧ h' = T15.heap) (kc := 0) (ks := 0) (h := T15.heap) (W := 0) (b := x15) (argsL := [(.int (Int32.ofNat (18 + (cs11 : List Int32).length + k48)))]) (rest := []) (StrChars.Road.chN (s := (s.setVm T15.vm)) (R := room_1) (W := 0) hZ15 (own_wch hw) (kI := 4) (hw _ (List.mem_of_getElem? (i := 2) rfl)) (cs := (own_msg cs11 cs13)) Ex15 Vx15 Cx15 Kx15 (StrChars.Road.codOf (n := ((own_msg cs11 cs13) : List Int32).length) rfl (fun c hc => ((own_msgC hB11 hB13) c hc).rng.2)) (fun c hc => ((own_msgC hB11 hB13) c hc).rng2) (SC.ext ((((((O0.ext E1).ext E4).ext E7).keep K11 all0).keep K13 all0).keep K15 all0).2) hz (SF.ext ((((((O0.ext E1).ext E4).ext E7).keep K11 all0).keep K13 all0).keep K15 all0).2) hfm (by rw [own_msgL]; omega) (i := (18 + (cs11 : List Int32).length + k48)) (by first | omega | (rw [own_msgL]; omega) | (rw [own_pN]; omega) | (rw [own_mN]; omega) | (rw [own_sN]; omega)) rfl (by decide) (by decide)) Ex15 c51 (lenOf pd_23 rfl) rfl (hb hby at_203) e45
    have N52 := Fr.app N45 (Fr.nil _)
    have c52 : Steps p.tables e below S0 (T52.setTop (mkF m 206 #[.val (.int i0), .val (.int i1), .val (.int i2), .val (.ref la_1), .val (.ref la_4), .val (.ref la_7), .val (.ref x11), .val (.ref x13), .val (.ref a15), .val (.ref x15), .val (.int (Int32.ofNat (cs11 : List Int32).length)), .val (.int (Int32.ofNat (cs13 : List Int32).length)), .val (.int (18 : Int32)), .val (.int (10 : Int32)), .val (.int (61 : Int32)), .val (.int (i2 &&& (2147483647 : Int32))), .val (.int (Int32.ofNat k40)), .val (.int (Int32.ofNat k48)), .unset] [(.int (own_at9 (own_msg cs11 cs13) (18 + (cs11 : List Int32).length + k48)))])) := c52'
    have c53 : Steps p.tables e below S0 (T52.setTop (mkF m 210 #[.val (.int i0), .val (.int i1), .val (.int i2), .val (.ref la_1), .val (.ref la_4), .val (.ref la_7), .val (.ref x11), .val (.ref x13), .val (.ref a15), .val (.ref x15), .val (.int (Int32.ofNat (cs11 : List Int32).length)), .val (.int (Int32.ofNat (cs13 : List Int32).length)), .val (.int (18 : Int32)), .val (.int (10 : Int32)), .val (.int (61 : Int32)), .val (.int (i2 &&& (2147483647 : Int32))), .val (.int (Int32.ofNat k40)), .val (.int (Int32.ofNat k48)), .unset] [(.int (Int32.ofNat k48)), (.ref la_4), (.int (own_at9 (own_msg cs11 cs13) (18 + (cs11 : List Int32).length + k48)))])) := c52.trans (by
      refine XS.aload X52.here hx rfl (hb hby at_206) rfl rfl ?_
      refine XS.iload X52.here hx rfl (hb hby at_208) rfl ?_
      exact Steps.refl _)
    obtain ⟨v54, T54, L54, X54, ⟨rfl, rfl, e54⟩, c54'⟩ := own_virt X52 hx hml hZ15 hown15 (hw _ (List.mem_of_getElem? (i := 252) rfl)) (hw _ (List.mem_of_getElem? (i := 253) rfl)) (hw _ (List.mem_of_getElem? (i := 255) rfl)) (hw _ (List.mem_of_getElem? (i := 254) rfl)) (hw _ (List.mem_of_getElem? (i := 255) rfl)) (by decide) (Q := fun v h' L => v = some (.int (own_at9 own_m k48)) ∧ L = [] ∧ h' = T15.heap) (kc := 0) (ks := 0) (h := T15.heap) (W := 1) (b := la_4) (argsL := [(.int (Int32.ofNat k48))]) (rest := [(.int (own_at9 (own_msg cs11 cs13) (18 + (cs11 : List Int32).length + k48)))]) (StrChars.Road.chN (s := (s.setVm T15.vm)) (R := room_1) (W := 1) hZ15 (own_wch hw) (kI := 4) (hw _ (List.mem_of_getElem? (i := 2) rfl)) (cs := own_m) ((((Ea4.ext E7).keep K11).keep K13).keep K15) ((((Va4.ext E7).keep K11 nin0).keep K13 nin0).keep K15 nin0) ((((Ca4.ext E7).keep K11 nin0).keep K13 nin0).keep K15 nin0) ((((Kl6.ext E7).keep K11 nin0).keep K13 nin0).keep K15 nin0) (StrChars.Road.codOf (n := (own_m : List Int32).length) rfl (fun c hc => (own_mC c hc).rng.2)) (fun c hc => (own_mC c hc).rng2) (SC.ext ((((((O0.ext E1).ext E4).ext E7).keep K11 all0).keep K13 all0).keep K15 all0).2) hz (SF.ext ((((((O0.ext E1).ext E4).ext E7).keep K11 all0).keep K13 all0).keep K15 all0).2) hfm (by decide) (i := k48) (by first | omega | (rw [own_msgL]; omega) | (rw [own_pN]; omega) | (rw [own_mN]; omega) | (rw [own_sN]; omega)) rfl (by decide) (by decide)) ((((Ea4.ext E7).keep K11).keep K13).keep K15) c53 (lenOf pd_23 rfl) rfl (hb hby at_210) e52
    have N54 := Fr.app N52 (Fr.nil _)
    have c54 : Steps p.tables e below S0 (T54.setTop (mkF m 213 #[.val (.int i0), .val (.int i1), .val (.int i2), .val (.ref la_1), .val (.ref la_4), .val (.ref la_7), .val (.ref x11), .val (.ref x13), .val (.ref a15), .val (.ref x15), .val (.int (Int32.ofNat (cs11 : List Int32).length)), .val (.int (Int32.ofNat (cs13 : List Int32).length)), .val (.int (18 : Int32)), .val (.int (10 : Int32)), .val (.int (61 : Int32)), .val (.int (i2 &&& (2147483647 : Int32))), .val (.int (Int32.ofNat k40)), .val (.int (Int32.ofNat k48)), .unset] [(.int (own_at9 own_m k48)), (.int (own_at9 (own_msg cs11 cs13) (18 + (cs11 : List Int32).length + k48)))])) := c54'
    have c55 : Steps p.tables e below S0 (T54.setTop (mkF m 220 #[.val (.int i0), .val (.int i1), .val (.int i2), .val (.ref la_1), .val (.ref la_4), .val (.ref la_7), .val (.ref x11), .val (.ref x13), .val (.ref a15), .val (.ref x15), .val (.int (Int32.ofNat (cs11 : List Int32).length)), .val (.int (Int32.ofNat (cs13 : List Int32).length)), .val (.int (18 : Int32)), .val (.int (10 : Int32)), .val (.int (61 : Int32)), .val (.int (i2 &&& (2147483647 : Int32))), .val (.int (Int32.ofNat k40)), .val (.int (Int32.ofNat k48)), .unset] [(.int (Int32.ofNat (cs13 : List Int32).length))])) := c54.trans (by
      refine XS.icmpYes X54.here hx rfl (pc0 := 213) (pc' := 218) rfl (hb hby at_213) rfl (teq (own_m3 _ _ hj48)).1 (by decide) (by decide) ?_
      refine XS.iload X54.here hx rfl (hb hby at_218) rfl ?_
      exact Steps.refl _)
    rcases Nat.eq_zero_or_pos (cs13 : List Int32).length with zn0 | znp
    · skip
      have c56 : Steps p.tables e below S0 (T54.setTop (mkF m 263 #[.val (.int i0), .val (.int i1), .val (.int i2), .val (.ref la_1), .val (.ref la_4), .val (.ref la_7), .val (.ref x11), .val (.ref x13), .val (.ref a15), .val (.ref x15), .val (.int (Int32.ofNat (cs11 : List Int32).length)), .val (.int (Int32.ofNat (cs13 : List Int32).length)), .val (.int (18 : Int32)), .val (.int (10 : Int32)), .val (.int (61 : Int32)), .val (.int (i2 &&& (2147483647 : Int32))), .val (.int (Int32.ofNat k40)), .val (.int (Int32.ofNat k48)), .unset] [(.int ((i2 &&& (2147483647 : Int32)) % (61 : Int32)))])) := c55.trans (by
        refine XS.ifYes X54.here hx rfl (pc0 := 220) (pc' := 258) rfl (hb hby at_220) rfl ((if0 _ _).trans (flt (by rw [zn0]; decide)).2.2.2) (by decide) (by decide) ?_
        refine XS.iload X54.here hx rfl (hb hby at_258) rfl ?_
        refine XS.iload X54.here hx rfl (hb hby at_260) rfl ?_
        refine iremM X54 hx rfl (hb hby at_262) rfl (by decide) ?_
        exact Steps.refl _)
      obtain ⟨k57, hj57, ej57⟩ := own_remN i2 61 (by decide) (by omega)
      have eq58 : ((i2 &&& (2147483647 : Int32)) % (61 : Int32)) = (Int32.ofNat k57) := ej57
      have c58 : Steps p.tables e below S0 (T54.setTop (mkF m 263 #[.val (.int i0), .val (.int i1), .val (.int i2), .val (.ref la_1), .val (.ref la_4), .val (.ref la_7), .val (.ref x11), .val (.ref x13), .val (.ref a15), .val (.ref x15), .val (.int (Int32.ofNat (cs11 : List Int32).length)), .val (.int (Int32.ofNat (cs13 : List Int32).length)), .val (.int (18 : Int32)), .val (.int (10 : Int32)), .val (.int (61 : Int32)), .val (.int (i2 &&& (2147483647 : Int32))), .val (.int (Int32.ofNat k40)), .val (.int (Int32.ofNat k48)), .unset] [(.int (Int32.ofNat k57))])) := by have q := c56; rw [eq58] at q; exact q
      have c59 : Steps p.tables e below S0 (T54.setTop (mkF m 281 #[.val (.int i0), .val (.int i1), .val (.int i2), .val (.ref la_1), .val (.ref la_4), .val (.ref la_7), .val (.ref x11), .val (.ref x13), .val (.ref a15), .val (.ref x15), .val (.int (Int32.ofNat (cs11 : List Int32).length)), .val (.int (Int32.ofNat (cs13 : List Int32).length)), .val (.int (18 : Int32)), .val (.int (10 : Int32)), .val (.int (61 : Int32)), .val (.int (i2 &&& (2147483647 : Int32))), .val (.int (Int32.ofNat k40)), .val (.int (Int32.ofNat k48)), .val (.int (Int32.ofNat k57))] [(.int (((((18 : Int32) + (Int32.ofNat (cs11 : List Int32).length)) + (10 : Int32)) + (Int32.ofNat (cs13 : List Int32).length)) + (Int32.ofNat k57))), (.ref x15)])) := c58.trans (by
        refine XS.istore X54.here hx rfl (hb hby at_263) rfl (l' := #[.val (.int i0), .val (.int i1), .val (.int i2), .val (.ref la_1), .val (.ref la_4), .val (.ref la_7), .val (.ref x11), .val (.ref x13), .val (.ref a15), .val (.ref x15), .val (.int (Int32.ofNat (cs11 : List Int32).length)), .val (.int (Int32.ofNat (cs13 : List Int32).length)), .val (.int (18 : Int32)), .val (.int (10 : Int32)), .val (.int (61 : Int32)), .val (.int (i2 &&& (2147483647 : Int32))), .val (.int (Int32.ofNat k40)), .val (.int (Int32.ofNat k48)), .val (.int (Int32.ofNat k57))]) rfl ?_
        refine XS.aload X54.here hx rfl (hb hby at_265) rfl rfl ?_
        refine XS.iload X54.here hx rfl (hb hby at_267) rfl ?_
        refine XS.iload X54.here hx rfl (hb hby at_269) rfl ?_
        refine XS.iadd X54.here hx rfl (hb hby at_271) rfl ?_
        refine XS.iload X54.here hx rfl (hb hby at_272) rfl ?_
        refine XS.iadd X54.here hx rfl (hb hby at_274) rfl ?_
        refine XS.iload X54.here hx rfl (hb hby at_275) rfl ?_
        refine XS.iadd X54.here hx rfl (hb hby at_277) rfl ?_
        show Steps p.tables e below (T54.setTop (mkF m 278 #[.val (.int i0), .val (.int i1), .val (.int i2), .val (.ref la_1), .val (.ref la_4), .val (.ref la_7), .val (.ref x11), .val (.ref x13), .val (.ref a15), .val (.ref x15), .val (.int (Int32.ofNat (cs11 : List Int32).length)), .val (.int (Int32.ofNat (cs13 : List Int32).length)), .val (.int (18 : Int32)), .val (.int (10 : Int32)), .val (.int (61 : Int32)), .val (.int (i2 &&& (2147483647 : Int32))), .val (.int (Int32.ofNat k40)), .val (.int (Int32.ofNat k48)), .val (.int (Int32.ofNat k57))] [(.int ((((18 : Int32) + (Int32.ofNat (cs11 : List Int32).length)) + (10 : Int32)) + (Int32.ofNat (cs13 : List Int32).length))), (.ref x15)])) _
        refine XS.iload X54.here hx rfl (hb hby at_278) rfl ?_
        refine XS.iadd X54.here hx rfl (hb hby at_280) rfl ?_
        exact Steps.refl _)
      have eq60 : (((((18 : Int32) + (Int32.ofNat (cs11 : List Int32).length)) + (10 : Int32)) + (Int32.ofNat (cs13 : List Int32).length)) + (Int32.ofNat k57)) = (Int32.ofNat (18 + (cs11 : List Int32).length + 10 + (cs13 : List Int32).length + k57)) := own_s4 _ _ _
      have c60 : Steps p.tables e below S0 (T54.setTop (mkF m 281 #[.val (.int i0), .val (.int i1), .val (.int i2), .val (.ref la_1), .val (.ref la_4), .val (.ref la_7), .val (.ref x11), .val (.ref x13), .val (.ref a15), .val (.ref x15), .val (.int (Int32.ofNat (cs11 : List Int32).length)), .val (.int (Int32.ofNat (cs13 : List Int32).length)), .val (.int (18 : Int32)), .val (.int (10 : Int32)), .val (.int (61 : Int32)), .val (.int (i2 &&& (2147483647 : Int32))), .val (.int (Int32.ofNat k40)), .val (.int (Int32.ofNat k48)), .val (.int (Int32.ofNat k57))] [(.int (Int32.ofNat (18 + (cs11 : List Int32).length + 10 + (cs13 : List Int32).length + k57))), (.ref x15)])) := by have q := c59; rw [eq60] at q; exact q
      obtain ⟨v61, T61, L61, X61, ⟨rfl, rfl, e61⟩, c61'⟩ := own_virt X54 hx hml hZ15 hown15 (hw _ (List.mem_of_getElem? (i := 252) rfl)) (hw _ (List.mem_of_getElem? (i := 253) rfl)) (hw _ (List.mem_of_getElem? (i := 255) rfl)) (hw _ (List.mem_of_getElem? (i := 254) rfl)) (hw _ (List.mem_of_getElem? (i := 255) rfl)) (by decide) (Q := fun v h' L => v = some (.int (own_at9 (own_msg cs11 cs13) (18 + (cs11 : List Int32).length + 10 + (cs13 : List Int32).length + k57))) ∧ L = [] ∧ h' = T15.heap) (kc := 0) (ks := 0) (h := T15.heap) (W := 0) (b := x15) (argsL := [(.int (Int32.ofNat (18 + (cs11 : List Int32).length + 10 + (cs13 : List Int32).length + k57)))]) (rest := []) (StrChars.Road.chN (s := (s.setVm T15.vm)) (R := room_1) (W := 0) hZ15 (own_wch hw) (kI := 4) (hw _ (List.mem_of_getElem? (i := 2) rfl)) (cs := (own_msg cs11 cs13)) Ex15 Vx15 Cx15 Kx15 (StrChars.Road.codOf (n := ((own_msg cs11 cs13) : List Int32).length) rfl (fun c hc => ((own_msgC hB11 hB13) c hc).rng.2)) (fun c hc => ((own_msgC hB11 hB13) c hc).rng2) (SC.ext ((((((O0.ext E1).ext E4).ext E7).keep K11 all0).keep K13 all0).keep K15 all0).2) hz (SF.ext ((((((O0.ext E1).ext E4).ext E7).keep K11 all0).keep K13 all0).keep K15 all0).2) hfm (by rw [own_msgL]; omega) (i := (18 + (cs11 : List Int32).length + 10 + (cs13 : List Int32).length + k57)) (by first | omega | (rw [own_msgL]; omega) | (rw [own_pN]; omega) | (rw [own_mN]; omega) | (rw [own_sN]; omega)) rfl (by decide) (by decide)) Ex15 c60 (lenOf pd_23 rfl) rfl (hb hby at_281) e54
      have N61 := Fr.app N54 (Fr.nil _)
      have c61 : Steps p.tables e below S0 (T61.setTop (mkF m 284 #[.val (.int i0), .val (.int i1), .val (.int i2), .val (.ref la_1), .val (.ref la_4), .val (.ref la_7), .val (.ref x11), .val (.ref x13), .val (.ref a15), .val (.ref x15), .val (.int (Int32.ofNat (cs11 : List Int32).length)), .val (.int (Int32.ofNat (cs13 : List Int32).length)), .val (.int (18 : Int32)), .val (.int (10 : Int32)), .val (.int (61 : Int32)), .val (.int (i2 &&& (2147483647 : Int32))), .val (.int (Int32.ofNat k40)), .val (.int (Int32.ofNat k48)), .val (.int (Int32.ofNat k57))] [(.int (own_at9 (own_msg cs11 cs13) (18 + (cs11 : List Int32).length + 10 + (cs13 : List Int32).length + k57)))])) := c61'
      have c62 : Steps p.tables e below S0 (T61.setTop (mkF m 288 #[.val (.int i0), .val (.int i1), .val (.int i2), .val (.ref la_1), .val (.ref la_4), .val (.ref la_7), .val (.ref x11), .val (.ref x13), .val (.ref a15), .val (.ref x15), .val (.int (Int32.ofNat (cs11 : List Int32).length)), .val (.int (Int32.ofNat (cs13 : List Int32).length)), .val (.int (18 : Int32)), .val (.int (10 : Int32)), .val (.int (61 : Int32)), .val (.int (i2 &&& (2147483647 : Int32))), .val (.int (Int32.ofNat k40)), .val (.int (Int32.ofNat k48)), .val (.int (Int32.ofNat k57))] [(.int (Int32.ofNat k57)), (.ref la_7), (.int (own_at9 (own_msg cs11 cs13) (18 + (cs11 : List Int32).length + 10 + (cs13 : List Int32).length + k57)))])) := c61.trans (by
        refine XS.aload X61.here hx rfl (hb hby at_284) rfl rfl ?_
        refine XS.iload X61.here hx rfl (hb hby at_286) rfl ?_
        exact Steps.refl _)
      obtain ⟨v63, T63, L63, X63, ⟨rfl, rfl, e63⟩, c63'⟩ := own_virt X61 hx hml hZ15 hown15 (hw _ (List.mem_of_getElem? (i := 252) rfl)) (hw _ (List.mem_of_getElem? (i := 253) rfl)) (hw _ (List.mem_of_getElem? (i := 255) rfl)) (hw _ (List.mem_of_getElem? (i := 254) rfl)) (hw _ (List.mem_of_getElem? (i := 255) rfl)) (by decide) (Q := fun v h' L => v = some (.int (own_at9 own_s k57)) ∧ L = [] ∧ h' = T15.heap) (kc := 0) (ks := 0) (h := T15.heap) (W := 1) (b := la_7) (argsL := [(.int (Int32.ofNat k57))]) (rest := [(.int (own_at9 (own_msg cs11 cs13) (18 + (cs11 : List Int32).length + 10 + (cs13 : List Int32).length + k57)))]) (StrChars.Road.chN (s := (s.setVm T15.vm)) (R := room_1) (W := 1) hZ15 (own_wch hw) (kI := 4) (hw _ (List.mem_of_getElem? (i := 2) rfl)) (cs := own_s) (((Ea7.keep K11).keep K13).keep K15) (((Va7.keep K11 nin0).keep K13 nin0).keep K15 nin0) (((Ca7.keep K11 nin0).keep K13 nin0).keep K15 nin0) (((Kl9.keep K11 nin0).keep K13 nin0).keep K15 nin0) (StrChars.Road.codOf (n := (own_s : List Int32).length) rfl (fun c hc => (own_sC c hc).rng.2)) (fun c hc => (own_sC c hc).rng2) (SC.ext ((((((O0.ext E1).ext E4).ext E7).keep K11 all0).keep K13 all0).keep K15 all0).2) hz (SF.ext ((((((O0.ext E1).ext E4).ext E7).keep K11 all0).keep K13 all0).keep K15 all0).2) hfm (by decide) (i := k57) (by first | omega | (rw [own_msgL]; omega) | (rw [own_pN]; omega) | (rw [own_mN]; omega) | (rw [own_sN]; omega)) rfl (by decide) (by decide)) (((Ea7.keep K11).keep K13).keep K15) c62 (lenOf pd_23 rfl) rfl (hb hby at_288) e61
      have N63 := Fr.app N61 (Fr.nil _)
      have c63 : Steps p.tables e below S0 (T63.setTop (mkF m 291 #[.val (.int i0), .val (.int i1), .val (.int i2), .val (.ref la_1), .val (.ref la_4), .val (.ref la_7), .val (.ref x11), .val (.ref x13), .val (.ref a15), .val (.ref x15), .val (.int (Int32.ofNat (cs11 : List Int32).length)), .val (.int (Int32.ofNat (cs13 : List Int32).length)), .val (.int (18 : Int32)), .val (.int (10 : Int32)), .val (.int (61 : Int32)), .val (.int (i2 &&& (2147483647 : Int32))), .val (.int (Int32.ofNat k40)), .val (.int (Int32.ofNat k48)), .val (.int (Int32.ofNat k57))] [(.int (own_at9 own_s k57)), (.int (own_at9 (own_msg cs11 cs13) (18 + (cs11 : List Int32).length + 10 + (cs13 : List Int32).length + k57)))])) := c63'
      have c64 : Steps p.tables e below S0 (T63.setTop (mkF m 299 #[.val (.int i0), .val (.int i1), .val (.int i2), .val (.ref la_1), .val (.ref la_4), .val (.ref la_7), .val (.ref x11), .val (.ref x13), .val (.ref a15), .val (.ref x15), .val (.int (Int32.ofNat (cs11 : List Int32).length)), .val (.int (Int32.ofNat (cs13 : List Int32).length)), .val (.int (18 : Int32)), .val (.int (10 : Int32)), .val (.int (61 : Int32)), .val (.int (i2 &&& (2147483647 : Int32))), .val (.int (Int32.ofNat k40)), .val (.int (Int32.ofNat k48)), .val (.int (Int32.ofNat k57))] [(.int (1 : Int32))])) := c63.trans (by
        refine XS.icmpNo X63.here hx rfl (hb hby at_291) rfl (teq (own_m5 _ _ _)).2 ?_
        refine XS.iconst X63.here hx rfl (hb hby at_294) ?_
        refine XS.goto X63.here hx rfl (pc0 := 295) (pc' := 299) rfl (hb hby at_295) (by decide) (by decide) ?_
        exact Steps.refl _)
      refine ⟨T63, T15.vm, _, (some (.int (1 : Int32))), _, _, _, X63, by decide, by decide, (fun q => by cases q), N63, hS15, by rw [e63]; exact (Nat.le_refl _), hZ15, by rw [e63]; exact CR15, ?_, fun fs hr => ?_⟩
      · skip
        exact rfl
      · exact c64.trans (retN X63 hx (t := .boolean) hret (by simp) (hb hby at_299) hr)
    · skip
      have c66 : Steps p.tables e below S0 (T54.setTop (mkF m 228 #[.val (.int i0), .val (.int i1), .val (.int i2), .val (.ref la_1), .val (.ref la_4), .val (.ref la_7), .val (.ref x11), .val (.ref x13), .val (.ref a15), .val (.ref x15), .val (.int (Int32.ofNat (cs11 : List Int32).length)), .val (.int (Int32.ofNat (cs13 : List Int32).length)), .val (.int (18 : Int32)), .val (.int (10 : Int32)), .val (.int (61 : Int32)), .val (.int (i2 &&& (2147483647 : Int32))), .val (.int (Int32.ofNat k40)), .val (.int (Int32.ofNat k48)), .unset] [(.int ((i2 &&& (2147483647 : Int32)) % (Int32.ofNat (cs13 : List Int32).length)))])) := c55.trans (by
        refine XS.ifNo X54.here hx rfl (hb hby at_220) rfl ((if0 _ _).trans (tlt ((own_lt32 (i := 0) (by decide) (by omega)).mpr znp)).2.2.2) ?_
        refine XS.iload X54.here hx rfl (hb hby at_223) rfl ?_
        refine XS.iload X54.here hx rfl (hb hby at_225) rfl ?_
        refine iremM X54 hx rfl (hb hby at_227) rfl (own_nz znp (by omega)) ?_
        exact Steps.refl _)
      obtain ⟨k67, hj67, ej67⟩ := own_remN i2 (cs13 : List Int32).length znp (by omega)
      have eq68 : ((i2 &&& (2147483647 : Int32)) % (Int32.ofNat (cs13 : List Int32).length)) = (Int32.ofNat k67) := ej67
      have c68 : Steps p.tables e below S0 (T54.setTop (mkF m 228 #[.val (.int i0), .val (.int i1), .val (.int i2), .val (.ref la_1), .val (.ref la_4), .val (.ref la_7), .val (.ref x11), .val (.ref x13), .val (.ref a15), .val (.ref x15), .val (.int (Int32.ofNat (cs11 : List Int32).length)), .val (.int (Int32.ofNat (cs13 : List Int32).length)), .val (.int (18 : Int32)), .val (.int (10 : Int32)), .val (.int (61 : Int32)), .val (.int (i2 &&& (2147483647 : Int32))), .val (.int (Int32.ofNat k40)), .val (.int (Int32.ofNat k48)), .unset] [(.int (Int32.ofNat k67))])) := by have q := c66; rw [eq68] at q; exact q
      have c69 : Steps p.tables e below S0 (T54.setTop (mkF m 243 #[.val (.int i0), .val (.int i1), .val (.int i2), .val (.ref la_1), .val (.ref la_4), .val (.ref la_7), .val (.ref x11), .val (.ref x13), .val (.ref a15), .val (.ref x15), .val (.int (Int32.ofNat (cs11 : List Int32).length)), .val (.int (Int32.ofNat (cs13 : List Int32).length)), .val (.int (18 : Int32)), .val (.int (10 : Int32)), .val (.int (61 : Int32)), .val (.int (i2 &&& (2147483647 : Int32))), .val (.int (Int32.ofNat k40)), .val (.int (Int32.ofNat k48)), .val (.int (Int32.ofNat k67))] [(.int ((((18 : Int32) + (Int32.ofNat (cs11 : List Int32).length)) + (10 : Int32)) + (Int32.ofNat k67))), (.ref x15)])) := c68.trans (by
        refine XS.istore X54.here hx rfl (hb hby at_228) rfl (l' := #[.val (.int i0), .val (.int i1), .val (.int i2), .val (.ref la_1), .val (.ref la_4), .val (.ref la_7), .val (.ref x11), .val (.ref x13), .val (.ref a15), .val (.ref x15), .val (.int (Int32.ofNat (cs11 : List Int32).length)), .val (.int (Int32.ofNat (cs13 : List Int32).length)), .val (.int (18 : Int32)), .val (.int (10 : Int32)), .val (.int (61 : Int32)), .val (.int (i2 &&& (2147483647 : Int32))), .val (.int (Int32.ofNat k40)), .val (.int (Int32.ofNat k48)), .val (.int (Int32.ofNat k67))]) rfl ?_
        refine XS.aload X54.here hx rfl (hb hby at_230) rfl rfl ?_
        refine XS.iload X54.here hx rfl (hb hby at_232) rfl ?_
        refine XS.iload X54.here hx rfl (hb hby at_234) rfl ?_
        refine XS.iadd X54.here hx rfl (hb hby at_236) rfl ?_
        refine XS.iload X54.here hx rfl (hb hby at_237) rfl ?_
        refine XS.iadd X54.here hx rfl (hb hby at_239) rfl ?_
        refine XS.iload X54.here hx rfl (hb hby at_240) rfl ?_
        refine XS.iadd X54.here hx rfl (hb hby at_242) rfl ?_
        show Steps p.tables e below (T54.setTop (mkF m 243 #[.val (.int i0), .val (.int i1), .val (.int i2), .val (.ref la_1), .val (.ref la_4), .val (.ref la_7), .val (.ref x11), .val (.ref x13), .val (.ref a15), .val (.ref x15), .val (.int (Int32.ofNat (cs11 : List Int32).length)), .val (.int (Int32.ofNat (cs13 : List Int32).length)), .val (.int (18 : Int32)), .val (.int (10 : Int32)), .val (.int (61 : Int32)), .val (.int (i2 &&& (2147483647 : Int32))), .val (.int (Int32.ofNat k40)), .val (.int (Int32.ofNat k48)), .val (.int (Int32.ofNat k67))] [(.int ((((18 : Int32) + (Int32.ofNat (cs11 : List Int32).length)) + (10 : Int32)) + (Int32.ofNat k67))), (.ref x15)])) _
        exact Steps.refl _)
      have eq70 : ((((18 : Int32) + (Int32.ofNat (cs11 : List Int32).length)) + (10 : Int32)) + (Int32.ofNat k67)) = (Int32.ofNat (18 + (cs11 : List Int32).length + 10 + k67)) := own_s3 _ _
      have c70 : Steps p.tables e below S0 (T54.setTop (mkF m 243 #[.val (.int i0), .val (.int i1), .val (.int i2), .val (.ref la_1), .val (.ref la_4), .val (.ref la_7), .val (.ref x11), .val (.ref x13), .val (.ref a15), .val (.ref x15), .val (.int (Int32.ofNat (cs11 : List Int32).length)), .val (.int (Int32.ofNat (cs13 : List Int32).length)), .val (.int (18 : Int32)), .val (.int (10 : Int32)), .val (.int (61 : Int32)), .val (.int (i2 &&& (2147483647 : Int32))), .val (.int (Int32.ofNat k40)), .val (.int (Int32.ofNat k48)), .val (.int (Int32.ofNat k67))] [(.int (Int32.ofNat (18 + (cs11 : List Int32).length + 10 + k67))), (.ref x15)])) := by have q := c69; rw [eq70] at q; exact q
      obtain ⟨v71, T71, L71, X71, ⟨rfl, rfl, e71⟩, c71'⟩ := own_virt X54 hx hml hZ15 hown15 (hw _ (List.mem_of_getElem? (i := 252) rfl)) (hw _ (List.mem_of_getElem? (i := 253) rfl)) (hw _ (List.mem_of_getElem? (i := 255) rfl)) (hw _ (List.mem_of_getElem? (i := 254) rfl)) (hw _ (List.mem_of_getElem? (i := 255) rfl)) (by decide) (Q := fun v h' L => v = some (.int (own_at9 (own_msg cs11 cs13) (18 + (cs11 : List Int32).length + 10 + k67))) ∧ L = [] ∧ h' = T15.heap) (kc := 0) (ks := 0) (h := T15.heap) (W := 0) (b := x15) (argsL := [(.int (Int32.ofNat (18 + (cs11 : List Int32).length + 10 + k67)))]) (rest := []) (StrChars.Road.chN (s := (s.setVm T15.vm)) (R := room_1) (W := 0) hZ15 (own_wch hw) (kI := 4) (hw _ (List.mem_of_getElem? (i := 2) rfl)) (cs := (own_msg cs11 cs13)) Ex15 Vx15 Cx15 Kx15 (StrChars.Road.codOf (n := ((own_msg cs11 cs13) : List Int32).length) rfl (fun c hc => ((own_msgC hB11 hB13) c hc).rng.2)) (fun c hc => ((own_msgC hB11 hB13) c hc).rng2) (SC.ext ((((((O0.ext E1).ext E4).ext E7).keep K11 all0).keep K13 all0).keep K15 all0).2) hz (SF.ext ((((((O0.ext E1).ext E4).ext E7).keep K11 all0).keep K13 all0).keep K15 all0).2) hfm (by rw [own_msgL]; omega) (i := (18 + (cs11 : List Int32).length + 10 + k67)) (by first | omega | (rw [own_msgL]; omega) | (rw [own_pN]; omega) | (rw [own_mN]; omega) | (rw [own_sN]; omega)) rfl (by decide) (by decide)) Ex15 c70 (lenOf pd_23 rfl) rfl (hb hby at_243) e54
      have N71 := Fr.app N54 (Fr.nil _)
      have c71 : Steps p.tables e below S0 (T71.setTop (mkF m 246 #[.val (.int i0), .val (.int i1), .val (.int i2), .val (.ref la_1), .val (.ref la_4), .val (.ref la_7), .val (.ref x11), .val (.ref x13), .val (.ref a15), .val (.ref x15), .val (.int (Int32.ofNat (cs11 : List Int32).length)), .val (.int (Int32.ofNat (cs13 : List Int32).length)), .val (.int (18 : Int32)), .val (.int (10 : Int32)), .val (.int (61 : Int32)), .val (.int (i2 &&& (2147483647 : Int32))), .val (.int (Int32.ofNat k40)), .val (.int (Int32.ofNat k48)), .val (.int (Int32.ofNat k67))] [(.int (own_at9 (own_msg cs11 cs13) (18 + (cs11 : List Int32).length + 10 + k67)))])) := c71'
      have c72 : Steps p.tables e below S0 (T71.setTop (mkF m 250 #[.val (.int i0), .val (.int i1), .val (.int i2), .val (.ref la_1), .val (.ref la_4), .val (.ref la_7), .val (.ref x11), .val (.ref x13), .val (.ref a15), .val (.ref x15), .val (.int (Int32.ofNat (cs11 : List Int32).length)), .val (.int (Int32.ofNat (cs13 : List Int32).length)), .val (.int (18 : Int32)), .val (.int (10 : Int32)), .val (.int (61 : Int32)), .val (.int (i2 &&& (2147483647 : Int32))), .val (.int (Int32.ofNat k40)), .val (.int (Int32.ofNat k48)), .val (.int (Int32.ofNat k67))] [(.int (Int32.ofNat k67)), (.ref x13), (.int (own_at9 (own_msg cs11 cs13) (18 + (cs11 : List Int32).length + 10 + k67)))])) := c71.trans (by
        refine XS.aload X71.here hx rfl (hb hby at_246) rfl rfl ?_
        refine XS.iload X71.here hx rfl (hb hby at_248) rfl ?_
        exact Steps.refl _)
      obtain ⟨v73, T73, L73, X73, ⟨rfl, rfl, e73⟩, c73'⟩ := own_virt X71 hx hml hZ15 hown15 (hw _ (List.mem_of_getElem? (i := 252) rfl)) (hw _ (List.mem_of_getElem? (i := 253) rfl)) (hw _ (List.mem_of_getElem? (i := 255) rfl)) (hw _ (List.mem_of_getElem? (i := 254) rfl)) (hw _ (List.mem_of_getElem? (i := 255) rfl)) (by decide) (Q := fun v h' L => v = some (.int (own_at9 cs13 k67)) ∧ L = [] ∧ h' = T15.heap) (kc := 0) (ks := 0) (h := T15.heap) (W := 1) (b := x13) (argsL := [(.int (Int32.ofNat k67))]) (rest := [(.int (own_at9 (own_msg cs11 cs13) (18 + (cs11 : List Int32).length + 10 + k67)))]) (StrChars.Road.chN (s := (s.setVm T15.vm)) (R := room_1) (W := 1) hZ15 (own_wch hw) (kI := 4) (hw _ (List.mem_of_getElem? (i := 2) rfl)) (cs := cs13) (E13.keep K15) (V13.keep K15 nin0) (Cd13.keep K15 nin0) (Kb13.keep K15 nin0) (StrChars.Road.codOf (n := (cs13 : List Int32).length) rfl (fun c hc => (hB13 c hc).rng.2)) (fun c hc => (hB13 c hc).rng2) (SC.ext ((((((O0.ext E1).ext E4).ext E7).keep K11 all0).keep K13 all0).keep K15 all0).2) hz (SF.ext ((((((O0.ext E1).ext E4).ext E7).keep K11 all0).keep K13 all0).keep K15 all0).2) hfm (Nat.le_trans hn13 (by decide)) (i := k67) (by first | omega | (rw [own_msgL]; omega) | (rw [own_pN]; omega) | (rw [own_mN]; omega) | (rw [own_sN]; omega)) rfl (by decide) (by decide)) (E13.keep K15) c72 (lenOf pd_23 rfl) rfl (hb hby at_250) e71
      have N73 := Fr.app N71 (Fr.nil _)
      have c73 : Steps p.tables e below S0 (T73.setTop (mkF m 253 #[.val (.int i0), .val (.int i1), .val (.int i2), .val (.ref la_1), .val (.ref la_4), .val (.ref la_7), .val (.ref x11), .val (.ref x13), .val (.ref a15), .val (.ref x15), .val (.int (Int32.ofNat (cs11 : List Int32).length)), .val (.int (Int32.ofNat (cs13 : List Int32).length)), .val (.int (18 : Int32)), .val (.int (10 : Int32)), .val (.int (61 : Int32)), .val (.int (i2 &&& (2147483647 : Int32))), .val (.int (Int32.ofNat k40)), .val (.int (Int32.ofNat k48)), .val (.int (Int32.ofNat k67))] [(.int (own_at9 cs13 k67)), (.int (own_at9 (own_msg cs11 cs13) (18 + (cs11 : List Int32).length + 10 + k67)))])) := c73'
      have c74 : Steps p.tables e below S0 (T73.setTop (mkF m 263 #[.val (.int i0), .val (.int i1), .val (.int i2), .val (.ref la_1), .val (.ref la_4), .val (.ref la_7), .val (.ref x11), .val (.ref x13), .val (.ref a15), .val (.ref x15), .val (.int (Int32.ofNat (cs11 : List Int32).length)), .val (.int (Int32.ofNat (cs13 : List Int32).length)), .val (.int (18 : Int32)), .val (.int (10 : Int32)), .val (.int (61 : Int32)), .val (.int (i2 &&& (2147483647 : Int32))), .val (.int (Int32.ofNat k40)), .val (.int (Int32.ofNat k48)), .val (.int (Int32.ofNat k67))] [(.int ((i2 &&& (2147483647 : Int32)) % (61 : Int32)))])) := c73.trans (by
        refine XS.icmpYes X73.here hx rfl (pc0 := 253) (pc' := 258) rfl (hb hby at_253) rfl (teq (own_m4 _ _ hj67)).1 (by decide) (by decide) ?_
        refine XS.iload X73.here hx rfl (hb hby at_258) rfl ?_
        refine XS.iload X73.here hx rfl (hb hby at_260) rfl ?_
        refine iremM X73 hx rfl (hb hby at_262) rfl (by decide) ?_
        exact Steps.refl _)
      obtain ⟨k75, hj75, ej75⟩ := own_remN i2 61 (by decide) (by omega)
      have eq76 : ((i2 &&& (2147483647 : Int32)) % (61 : Int32)) = (Int32.ofNat k75) := ej75
      have c76 : Steps p.tables e below S0 (T73.setTop (mkF m 263 #[.val (.int i0), .val (.int i1), .val (.int i2), .val (.ref la_1), .val (.ref la_4), .val (.ref la_7), .val (.ref x11), .val (.ref x13), .val (.ref a15), .val (.ref x15), .val (.int (Int32.ofNat (cs11 : List Int32).length)), .val (.int (Int32.ofNat (cs13 : List Int32).length)), .val (.int (18 : Int32)), .val (.int (10 : Int32)), .val (.int (61 : Int32)), .val (.int (i2 &&& (2147483647 : Int32))), .val (.int (Int32.ofNat k40)), .val (.int (Int32.ofNat k48)), .val (.int (Int32.ofNat k67))] [(.int (Int32.ofNat k75))])) := by have q := c74; rw [eq76] at q; exact q
      have c77 : Steps p.tables e below S0 (T73.setTop (mkF m 281 #[.val (.int i0), .val (.int i1), .val (.int i2), .val (.ref la_1), .val (.ref la_4), .val (.ref la_7), .val (.ref x11), .val (.ref x13), .val (.ref a15), .val (.ref x15), .val (.int (Int32.ofNat (cs11 : List Int32).length)), .val (.int (Int32.ofNat (cs13 : List Int32).length)), .val (.int (18 : Int32)), .val (.int (10 : Int32)), .val (.int (61 : Int32)), .val (.int (i2 &&& (2147483647 : Int32))), .val (.int (Int32.ofNat k40)), .val (.int (Int32.ofNat k48)), .val (.int (Int32.ofNat k75))] [(.int (((((18 : Int32) + (Int32.ofNat (cs11 : List Int32).length)) + (10 : Int32)) + (Int32.ofNat (cs13 : List Int32).length)) + (Int32.ofNat k75))), (.ref x15)])) := c76.trans (by
        refine XS.istore X73.here hx rfl (hb hby at_263) rfl (l' := #[.val (.int i0), .val (.int i1), .val (.int i2), .val (.ref la_1), .val (.ref la_4), .val (.ref la_7), .val (.ref x11), .val (.ref x13), .val (.ref a15), .val (.ref x15), .val (.int (Int32.ofNat (cs11 : List Int32).length)), .val (.int (Int32.ofNat (cs13 : List Int32).length)), .val (.int (18 : Int32)), .val (.int (10 : Int32)), .val (.int (61 : Int32)), .val (.int (i2 &&& (2147483647 : Int32))), .val (.int (Int32.ofNat k40)), .val (.int (Int32.ofNat k48)), .val (.int (Int32.ofNat k75))]) rfl ?_
        refine XS.aload X73.here hx rfl (hb hby at_265) rfl rfl ?_
        refine XS.iload X73.here hx rfl (hb hby at_267) rfl ?_
        refine XS.iload X73.here hx rfl (hb hby at_269) rfl ?_
        refine XS.iadd X73.here hx rfl (hb hby at_271) rfl ?_
        refine XS.iload X73.here hx rfl (hb hby at_272) rfl ?_
        refine XS.iadd X73.here hx rfl (hb hby at_274) rfl ?_
        refine XS.iload X73.here hx rfl (hb hby at_275) rfl ?_
        refine XS.iadd X73.here hx rfl (hb hby at_277) rfl ?_
        show Steps p.tables e below (T73.setTop (mkF m 278 #[.val (.int i0), .val (.int i1), .val (.int i2), .val (.ref la_1), .val (.ref la_4), .val (.ref la_7), .val (.ref x11), .val (.ref x13), .val (.ref a15), .val (.ref x15), .val (.int (Int32.ofNat (cs11 : List Int32).length)), .val (.int (Int32.ofNat (cs13 : List Int32).length)), .val (.int (18 : Int32)), .val (.int (10 : Int32)), .val (.int (61 : Int32)), .val (.int (i2 &&& (2147483647 : Int32))), .val (.int (Int32.ofNat k40)), .val (.int (Int32.ofNat k48)), .val (.int (Int32.ofNat k75))] [(.int ((((18 : Int32) + (Int32.ofNat (cs11 : List Int32).length)) + (10 : Int32)) + (Int32.ofNat (cs13 : List Int32).length))), (.ref x15)])) _
        refine XS.iload X73.here hx rfl (hb hby at_278) rfl ?_
        refine XS.iadd X73.here hx rfl (hb hby at_280) rfl ?_
        exact Steps.refl _)
      have eq78 : (((((18 : Int32) + (Int32.ofNat (cs11 : List Int32).length)) + (10 : Int32)) + (Int32.ofNat (cs13 : List Int32).length)) + (Int32.ofNat k75)) = (Int32.ofNat (18 + (cs11 : List Int32).length + 10 + (cs13 : List Int32).length + k75)) := own_s4 _ _ _
      have c78 : Steps p.tables e below S0 (T73.setTop (mkF m 281 #[.val (.int i0), .val (.int i1), .val (.int i2), .val (.ref la_1), .val (.ref la_4), .val (.ref la_7), .val (.ref x11), .val (.ref x13), .val (.ref a15), .val (.ref x15), .val (.int (Int32.ofNat (cs11 : List Int32).length)), .val (.int (Int32.ofNat (cs13 : List Int32).length)), .val (.int (18 : Int32)), .val (.int (10 : Int32)), .val (.int (61 : Int32)), .val (.int (i2 &&& (2147483647 : Int32))), .val (.int (Int32.ofNat k40)), .val (.int (Int32.ofNat k48)), .val (.int (Int32.ofNat k75))] [(.int (Int32.ofNat (18 + (cs11 : List Int32).length + 10 + (cs13 : List Int32).length + k75))), (.ref x15)])) := by have q := c77; rw [eq78] at q; exact q
      obtain ⟨v79, T79, L79, X79, ⟨rfl, rfl, e79⟩, c79'⟩ := own_virt X73 hx hml hZ15 hown15 (hw _ (List.mem_of_getElem? (i := 252) rfl)) (hw _ (List.mem_of_getElem? (i := 253) rfl)) (hw _ (List.mem_of_getElem? (i := 255) rfl)) (hw _ (List.mem_of_getElem? (i := 254) rfl)) (hw _ (List.mem_of_getElem? (i := 255) rfl)) (by decide) (Q := fun v h' L => v = some (.int (own_at9 (own_msg cs11 cs13) (18 + (cs11 : List Int32).length + 10 + (cs13 : List Int32).length + k75))) ∧ L = [] ∧ h' = T15.heap) (kc := 0) (ks := 0) (h := T15.heap) (W := 0) (b := x15) (argsL := [(.int (Int32.ofNat (18 + (cs11 : List Int32).length + 10 + (cs13 : List Int32).length + k75)))]) (rest := []) (StrChars.Road.chN (s := (s.setVm T15.vm)) (R := room_1) (W := 0) hZ15 (own_wch hw) (kI := 4) (hw _ (List.mem_of_getElem? (i := 2) rfl)) (cs := (own_msg cs11 cs13)) Ex15 Vx15 Cx15 Kx15 (StrChars.Road.codOf (n := ((own_msg cs11 cs13) : List Int32).length) rfl (fun c hc => ((own_msgC hB11 hB13) c hc).rng.2)) (fun c hc => ((own_msgC hB11 hB13) c hc).rng2) (SC.ext ((((((O0.ext E1).ext E4).ext E7).keep K11 all0).keep K13 all0).keep K15 all0).2) hz (SF.ext ((((((O0.ext E1).ext E4).ext E7).keep K11 all0).keep K13 all0).keep K15 all0).2) hfm (by rw [own_msgL]; omega) (i := (18 + (cs11 : List Int32).length + 10 + (cs13 : List Int32).length + k75)) (by first | omega | (rw [own_msgL]; omega) | (rw [own_pN]; omega) | (rw [own_mN]; omega) | (rw [own_sN]; omega)) rfl (by decide) (by decide)) Ex15 c78 (lenOf pd_23 rfl) rfl (hb hby at_281) e73
      have N79 := Fr.app N73 (Fr.nil _)
      have c79 : Steps p.tables e below S0 (T79.setTop (mkF m 284 #[.val (.int i0), .val (.int i1), .val (.int i2), .val (.ref la_1), .val (.ref la_4), .val (.ref la_7), .val (.ref x11), .val (.ref x13), .val (.ref a15), .val (.ref x15), .val (.int (Int32.ofNat (cs11 : List Int32).length)), .val (.int (Int32.ofNat (cs13 : List Int32).length)), .val (.int (18 : Int32)), .val (.int (10 : Int32)), .val (.int (61 : Int32)), .val (.int (i2 &&& (2147483647 : Int32))), .val (.int (Int32.ofNat k40)), .val (.int (Int32.ofNat k48)), .val (.int (Int32.ofNat k75))] [(.int (own_at9 (own_msg cs11 cs13) (18 + (cs11 : List Int32).length + 10 + (cs13 : List Int32).length + k75)))])) := c79'
      have c80 : Steps p.tables e below S0 (T79.setTop (mkF m 288 #[.val (.int i0), .val (.int i1), .val (.int i2), .val (.ref la_1), .val (.ref la_4), .val (.ref la_7), .val (.ref x11), .val (.ref x13), .val (.ref a15), .val (.ref x15), .val (.int (Int32.ofNat (cs11 : List Int32).length)), .val (.int (Int32.ofNat (cs13 : List Int32).length)), .val (.int (18 : Int32)), .val (.int (10 : Int32)), .val (.int (61 : Int32)), .val (.int (i2 &&& (2147483647 : Int32))), .val (.int (Int32.ofNat k40)), .val (.int (Int32.ofNat k48)), .val (.int (Int32.ofNat k75))] [(.int (Int32.ofNat k75)), (.ref la_7), (.int (own_at9 (own_msg cs11 cs13) (18 + (cs11 : List Int32).length + 10 + (cs13 : List Int32).length + k75)))])) := c79.trans (by
        refine XS.aload X79.here hx rfl (hb hby at_284) rfl rfl ?_
        refine XS.iload X79.here hx rfl (hb hby at_286) rfl ?_
        exact Steps.refl _)
      obtain ⟨v81, T81, L81, X81, ⟨rfl, rfl, e81⟩, c81'⟩ := own_virt X79 hx hml hZ15 hown15 (hw _ (List.mem_of_getElem? (i := 252) rfl)) (hw _ (List.mem_of_getElem? (i := 253) rfl)) (hw _ (List.mem_of_getElem? (i := 255) rfl)) (hw _ (List.mem_of_getElem? (i := 254) rfl)) (hw _ (List.mem_of_getElem? (i := 255) rfl)) (by decide) (Q := fun v h' L => v = some (.int (own_at9 own_s k75)) ∧ L = [] ∧ h' = T15.heap) (kc := 0) (ks := 0) (h := T15.heap) (W := 1) (b := la_7) (argsL := [(.int (Int32.ofNat k75))]) (rest := [(.int (own_at9 (own_msg cs11 cs13) (18 + (cs11 : List Int32).length + 10 + (cs13 : List Int32).length + k75)))]) (StrChars.Road.chN (s := (s.setVm T15.vm)) (R := room_1) (W := 1) hZ15 (own_wch hw) (kI := 4) (hw _ (List.mem_of_getElem? (i := 2) rfl)) (cs := own_s) (((Ea7.keep K11).keep K13).keep K15) (((Va7.keep K11 nin0).keep K13 nin0).keep K15 nin0) (((Ca7.keep K11 nin0).keep K13 nin0).keep K15 nin0) (((Kl9.keep K11 nin0).keep K13 nin0).keep K15 nin0) (StrChars.Road.codOf (n := (own_s : List Int32).length) rfl (fun c hc => (own_sC c hc).rng.2)) (fun c hc => (own_sC c hc).rng2) (SC.ext ((((((O0.ext E1).ext E4).ext E7).keep K11 all0).keep K13 all0).keep K15 all0).2) hz (SF.ext ((((((O0.ext E1).ext E4).ext E7).keep K11 all0).keep K13 all0).keep K15 all0).2) hfm (by decide) (i := k75) (by first | omega | (rw [own_msgL]; omega) | (rw [own_pN]; omega) | (rw [own_mN]; omega) | (rw [own_sN]; omega)) rfl (by decide) (by decide)) (((Ea7.keep K11).keep K13).keep K15) c80 (lenOf pd_23 rfl) rfl (hb hby at_288) e79
      have N81 := Fr.app N79 (Fr.nil _)
      have c81 : Steps p.tables e below S0 (T81.setTop (mkF m 291 #[.val (.int i0), .val (.int i1), .val (.int i2), .val (.ref la_1), .val (.ref la_4), .val (.ref la_7), .val (.ref x11), .val (.ref x13), .val (.ref a15), .val (.ref x15), .val (.int (Int32.ofNat (cs11 : List Int32).length)), .val (.int (Int32.ofNat (cs13 : List Int32).length)), .val (.int (18 : Int32)), .val (.int (10 : Int32)), .val (.int (61 : Int32)), .val (.int (i2 &&& (2147483647 : Int32))), .val (.int (Int32.ofNat k40)), .val (.int (Int32.ofNat k48)), .val (.int (Int32.ofNat k75))] [(.int (own_at9 own_s k75)), (.int (own_at9 (own_msg cs11 cs13) (18 + (cs11 : List Int32).length + 10 + (cs13 : List Int32).length + k75)))])) := c81'
      have c82 : Steps p.tables e below S0 (T81.setTop (mkF m 299 #[.val (.int i0), .val (.int i1), .val (.int i2), .val (.ref la_1), .val (.ref la_4), .val (.ref la_7), .val (.ref x11), .val (.ref x13), .val (.ref a15), .val (.ref x15), .val (.int (Int32.ofNat (cs11 : List Int32).length)), .val (.int (Int32.ofNat (cs13 : List Int32).length)), .val (.int (18 : Int32)), .val (.int (10 : Int32)), .val (.int (61 : Int32)), .val (.int (i2 &&& (2147483647 : Int32))), .val (.int (Int32.ofNat k40)), .val (.int (Int32.ofNat k48)), .val (.int (Int32.ofNat k75))] [(.int (1 : Int32))])) := c81.trans (by
        refine XS.icmpNo X81.here hx rfl (hb hby at_291) rfl (teq (own_m5 _ _ _)).2 ?_
        refine XS.iconst X81.here hx rfl (hb hby at_294) ?_
        refine XS.goto X81.here hx rfl (pc0 := 295) (pc' := 299) rfl (hb hby at_295) (by decide) (by decide) ?_
        exact Steps.refl _)
      refine ⟨T81, T15.vm, _, (some (.int (1 : Int32))), _, _, _, X81, by decide, by decide, (fun q => by cases q), N81, hS15, by rw [e81]; exact (Nat.le_refl _), hZ15, by rw [e81]; exact CR15, ?_, fun fs hr => ?_⟩
      · skip
        exact rfl
      · exact c82.trans (retN X81 hx (t := .boolean) hret (by simp) (hb hby at_299) hr)
  · skip
    have c84 : Steps p.tables e below S0 (T45.setTop (mkF m 162 #[.val (.int i0), .val (.int i1), .val (.int i2), .val (.ref la_1), .val (.ref la_4), .val (.ref la_7), .val (.ref x11), .val (.ref x13), .val (.ref a15), .val (.ref x15), .val (.int (Int32.ofNat (cs11 : List Int32).length)), .val (.int (Int32.ofNat (cs13 : List Int32).length)), .val (.int (18 : Int32)), .val (.int (10 : Int32)), .val (.int (61 : Int32)), .val (.int (i2 &&& (2147483647 : Int32))), .val (.int (Int32.ofNat k40)), .unset, .unset] [(.int ((i2 &&& (2147483647 : Int32)) % (Int32.ofNat (cs11 : List Int32).length)))])) := c46.trans (by
      refine XS.ifNo X45.here hx rfl (hb hby at_154) rfl ((if0 _ _).trans (tlt ((own_lt32 (i := 0) (by decide) (by omega)).mpr zkp)).2.2.2) ?_
      refine XS.iload X45.here hx rfl (hb hby at_157) rfl ?_
      refine XS.iload X45.here hx rfl (hb hby at_159) rfl ?_
      refine iremM X45 hx rfl (hb hby at_161) rfl (own_nz zkp (by omega)) ?_
      exact Steps.refl _)
    obtain ⟨k85, hj85, ej85⟩ := own_remN i2 (cs11 : List Int32).length zkp (by omega)
    have eq86 : ((i2 &&& (2147483647 : Int32)) % (Int32.ofNat (cs11 : List Int32).length)) = (Int32.ofNat k85) := ej85
    have c86 : Steps p.tables e below S0 (T45.setTop (mkF m 162 #[.val (.int i0), .val (.int i1), .val (.int i2), .val (.ref la_1), .val (.ref la_4), .val (.ref la_7), .val (.ref x11), .val (.ref x13), .val (.ref a15), .val (.ref x15), .val (.int (Int32.ofNat (cs11 : List Int32).length)), .val (.int (Int32.ofNat (cs13 : List Int32).length)), .val (.int (18 : Int32)), .val (.int (10 : Int32)), .val (.int (61 : Int32)), .val (.int (i2 &&& (2147483647 : Int32))), .val (.int (Int32.ofNat k40)), .unset, .unset] [(.int (Int32.ofNat k85))])) := by have q := c84; rw [eq86] at q; exact q
    have c87 : Steps p.tables e below S0 (T45.setTop (mkF m 171 #[.val (.int i0), .val (.int i1), .val (.int i2), .val (.ref la_1), .val (.ref la_4), .val (.ref la_7), .val (.ref x11), .val (.ref x13), .val (.ref a15), .val (.ref x15), .val (.int (Int32.ofNat (cs11 : List Int32).length)), .val (.int (Int32.ofNat (cs13 : List Int32).length)), .val (.int (18 : Int32)), .val (.int (10 : Int32)), .val (.int (61 : Int32)), .val (.int (i2 &&& (2147483647 : Int32))), .val (.int (Int32.ofNat k40)), .val (.int (Int32.ofNat k85)), .unset] [(.int ((18 : Int32) + (Int32.ofNat k85))), (.ref x15)])) := c86.trans (by
      refine XS.istore X45.here hx rfl (hb hby at_162) rfl (l' := #[.val (.int i0), .val (.int i1), .val (.int i2), .val (.ref la_1), .val (.ref la_4), .val (.ref la_7), .val (.ref x11), .val (.ref x13), .val (.ref a15), .val (.ref x15), .val (.int (Int32.ofNat (cs11 : List Int32).length)), .val (.int (Int32.ofNat (cs13 : List Int32).length)), .val (.int (18 : Int32)), .val (.int (10 : Int32)), .val (.int (61 : Int32)), .val (.int (i2 &&& (2147483647 : Int32))), .val (.int (Int32.ofNat k40)), .val (.int (Int32.ofNat k85)), .unset]) rfl ?_
      refine XS.aload X45.here hx rfl (hb hby at_164) rfl rfl ?_
      refine XS.iload X45.here hx rfl (hb hby at_166) rfl ?_
      refine XS.iload X45.here hx rfl (hb hby at_168) rfl ?_
      refine XS.iadd X45.here hx rfl (hb hby at_170) rfl ?_
      exact Steps.refl _)
    have eq88 : ((18 : Int32) + (Int32.ofNat k85)) = (Int32.ofNat (18 + k85)) := own_s1 _
    have c88 : Steps p.tables e below S0 (T45.setTop (mkF m 171 #[.val (.int i0), .val (.int i1), .val (.int i2), .val (.ref la_1), .val (.ref la_4), .val (.ref la_7), .val (.ref x11), .val (.ref x13), .val (.ref a15), .val (.ref x15), .val (.int (Int32.ofNat (cs11 : List Int32).length)), .val (.int (Int32.ofNat (cs13 : List Int32).length)), .val (.int (18 : Int32)), .val (.int (10 : Int32)), .val (.int (61 : Int32)), .val (.int (i2 &&& (2147483647 : Int32))), .val (.int (Int32.ofNat k40)), .val (.int (Int32.ofNat k85)), .unset] [(.int (Int32.ofNat (18 + k85))), (.ref x15)])) := by have q := c87; rw [eq88] at q; exact q
    obtain ⟨v89, T89, L89, X89, ⟨rfl, rfl, e89⟩, c89'⟩ := own_virt X45 hx hml hZ15 hown15 (hw _ (List.mem_of_getElem? (i := 252) rfl)) (hw _ (List.mem_of_getElem? (i := 253) rfl)) (hw _ (List.mem_of_getElem? (i := 255) rfl)) (hw _ (List.mem_of_getElem? (i := 254) rfl)) (hw _ (List.mem_of_getElem? (i := 255) rfl)) (by decide) (Q := fun v h' L => v = some (.int (own_at9 (own_msg cs11 cs13) (18 + k85))) ∧ L = [] ∧ h' = T15.heap) (kc := 0) (ks := 0) (h := T15.heap) (W := 0) (b := x15) (argsL := [(.int (Int32.ofNat (18 + k85)))]) (rest := []) (StrChars.Road.chN (s := (s.setVm T15.vm)) (R := room_1) (W := 0) hZ15 (own_wch hw) (kI := 4) (hw _ (List.mem_of_getElem? (i := 2) rfl)) (cs := (own_msg cs11 cs13)) Ex15 Vx15 Cx15 Kx15 (StrChars.Road.codOf (n := ((own_msg cs11 cs13) : List Int32).length) rfl (fun c hc => ((own_msgC hB11 hB13) c hc).rng.2)) (fun c hc => ((own_msgC hB11 hB13) c hc).rng2) (SC.ext ((((((O0.ext E1).ext E4).ext E7).keep K11 all0).keep K13 all0).keep K15 all0).2) hz (SF.ext ((((((O0.ext E1).ext E4).ext E7).keep K11 all0).keep K13 all0).keep K15 all0).2) hfm (by rw [own_msgL]; omega) (i := (18 + k85)) (by first | omega | (rw [own_msgL]; omega) | (rw [own_pN]; omega) | (rw [own_mN]; omega) | (rw [own_sN]; omega)) rfl (by decide) (by decide)) Ex15 c88 (lenOf pd_23 rfl) rfl (hb hby at_171) e45
    have N89 := Fr.app N45 (Fr.nil _)
    have c89 : Steps p.tables e below S0 (T89.setTop (mkF m 174 #[.val (.int i0), .val (.int i1), .val (.int i2), .val (.ref la_1), .val (.ref la_4), .val (.ref la_7), .val (.ref x11), .val (.ref x13), .val (.ref a15), .val (.ref x15), .val (.int (Int32.ofNat (cs11 : List Int32).length)), .val (.int (Int32.ofNat (cs13 : List Int32).length)), .val (.int (18 : Int32)), .val (.int (10 : Int32)), .val (.int (61 : Int32)), .val (.int (i2 &&& (2147483647 : Int32))), .val (.int (Int32.ofNat k40)), .val (.int (Int32.ofNat k85)), .unset] [(.int (own_at9 (own_msg cs11 cs13) (18 + k85)))])) := c89'
    have c90 : Steps p.tables e below S0 (T89.setTop (mkF m 178 #[.val (.int i0), .val (.int i1), .val (.int i2), .val (.ref la_1), .val (.ref la_4), .val (.ref la_7), .val (.ref x11), .val (.ref x13), .val (.ref a15), .val (.ref x15), .val (.int (Int32.ofNat (cs11 : List Int32).length)), .val (.int (Int32.ofNat (cs13 : List Int32).length)), .val (.int (18 : Int32)), .val (.int (10 : Int32)), .val (.int (61 : Int32)), .val (.int (i2 &&& (2147483647 : Int32))), .val (.int (Int32.ofNat k40)), .val (.int (Int32.ofNat k85)), .unset] [(.int (Int32.ofNat k85)), (.ref x11), (.int (own_at9 (own_msg cs11 cs13) (18 + k85)))])) := c89.trans (by
      refine XS.aload X89.here hx rfl (hb hby at_174) rfl rfl ?_
      refine XS.iload X89.here hx rfl (hb hby at_176) rfl ?_
      exact Steps.refl _)
    obtain ⟨v91, T91, L91, X91, ⟨rfl, rfl, e91⟩, c91'⟩ := own_virt X89 hx hml hZ15 hown15 (hw _ (List.mem_of_getElem? (i := 252) rfl)) (hw _ (List.mem_of_getElem? (i := 253) rfl)) (hw _ (List.mem_of_getElem? (i := 255) rfl)) (hw _ (List.mem_of_getElem? (i := 254) rfl)) (hw _ (List.mem_of_getElem? (i := 255) rfl)) (by decide) (Q := fun v h' L => v = some (.int (own_at9 cs11 k85)) ∧ L = [] ∧ h' = T15.heap) (kc := 0) (ks := 0) (h := T15.heap) (W := 1) (b := x11) (argsL := [(.int (Int32.ofNat k85))]) (rest := [(.int (own_at9 (own_msg cs11 cs13) (18 + k85)))]) (StrChars.Road.chN (s := (s.setVm T15.vm)) (R := room_1) (W := 1) hZ15 (own_wch hw) (kI := 4) (hw _ (List.mem_of_getElem? (i := 2) rfl)) (cs := cs11) ((E11.keep K13).keep K15) ((V11.keep K13 nin0).keep K15 nin0) ((Cd11.keep K13 nin0).keep K15 nin0) ((Kb11.keep K13 nin0).keep K15 nin0) (StrChars.Road.codOf (n := (cs11 : List Int32).length) rfl (fun c hc => (hB11 c hc).rng.2)) (fun c hc => (hB11 c hc).rng2) (SC.ext ((((((O0.ext E1).ext E4).ext E7).keep K11 all0).keep K13 all0).keep K15 all0).2) hz (SF.ext ((((((O0.ext E1).ext E4).ext E7).keep K11 all0).keep K13 all0).keep K15 all0).2) hfm (Nat.le_trans hn11 (by decide)) (i := k85) (by first | omega | (rw [own_msgL]; omega) | (rw [own_pN]; omega) | (rw [own_mN]; omega) | (rw [own_sN]; omega)) rfl (by decide) (by decide)) ((E11.keep K13).keep K15) c90 (lenOf pd_23 rfl) rfl (hb hby at_178) e89
    have N91 := Fr.app N89 (Fr.nil _)
    have c91 : Steps p.tables e below S0 (T91.setTop (mkF m 181 #[.val (.int i0), .val (.int i1), .val (.int i2), .val (.ref la_1), .val (.ref la_4), .val (.ref la_7), .val (.ref x11), .val (.ref x13), .val (.ref a15), .val (.ref x15), .val (.int (Int32.ofNat (cs11 : List Int32).length)), .val (.int (Int32.ofNat (cs13 : List Int32).length)), .val (.int (18 : Int32)), .val (.int (10 : Int32)), .val (.int (61 : Int32)), .val (.int (i2 &&& (2147483647 : Int32))), .val (.int (Int32.ofNat k40)), .val (.int (Int32.ofNat k85)), .unset] [(.int (own_at9 cs11 k85)), (.int (own_at9 (own_msg cs11 cs13) (18 + k85)))])) := c91'
    have c92 : Steps p.tables e below S0 (T91.setTop (mkF m 191 #[.val (.int i0), .val (.int i1), .val (.int i2), .val (.ref la_1), .val (.ref la_4), .val (.ref la_7), .val (.ref x11), .val (.ref x13), .val (.ref a15), .val (.ref x15), .val (.int (Int32.ofNat (cs11 : List Int32).length)), .val (.int (Int32.ofNat (cs13 : List Int32).length)), .val (.int (18 : Int32)), .val (.int (10 : Int32)), .val (.int (61 : Int32)), .val (.int (i2 &&& (2147483647 : Int32))), .val (.int (Int32.ofNat k40)), .val (.int (Int32.ofNat k85)), .unset] [(.int ((i2 &&& (2147483647 : Int32)) % (10 : Int32)))])) := c91.trans (by
      refine XS.icmpYes X91.here hx rfl (pc0 := 181) (pc' := 186) rfl (hb hby at_181) rfl (teq (own_m2 _ _ hj85)).1 (by decide) (by decide) ?_
      refine XS.iload X91.here hx rfl (hb hby at_186) rfl ?_
      refine XS.iload X91.here hx rfl (hb hby at_188) rfl ?_
      refine iremM X91 hx rfl (hb hby at_190) rfl (by decide) ?_
      exact Steps.refl _)
    obtain ⟨k93, hj93, ej93⟩ := own_remN i2 10 (by decide) (by omega)
    have eq94 : ((i2 &&& (2147483647 : Int32)) % (10 : Int32)) = (Int32.ofNat k93) := ej93
    have c94 : Steps p.tables e below S0 (T91.setTop (mkF m 191 #[.val (.int i0), .val (.int i1), .val (.int i2), .val (.ref la_1), .val (.ref la_4), .val (.ref la_7), .val (.ref x11), .val (.ref x13), .val (.ref a15), .val (.ref x15), .val (.int (Int32.ofNat (cs11 : List Int32).length)), .val (.int (Int32.ofNat (cs13 : List Int32).length)), .val (.int (18 : Int32)), .val (.int (10 : Int32)), .val (.int (61 : Int32)), .val (.int (i2 &&& (2147483647 : Int32))), .val (.int (Int32.ofNat k40)), .val (.int (Int32.ofNat k85)), .unset] [(.int (Int32.ofNat k93))])) := by have q := c92; rw [eq94] at q; exact q
    have c95 : Steps p.tables e below S0 (T91.setTop (mkF m 203 #[.val (.int i0), .val (.int i1), .val (.int i2), .val (.ref la_1), .val (.ref la_4), .val (.ref la_7), .val (.ref x11), .val (.ref x13), .val (.ref a15), .val (.ref x15), .val (.int (Int32.ofNat (cs11 : List Int32).length)), .val (.int (Int32.ofNat (cs13 : List Int32).length)), .val (.int (18 : Int32)), .val (.int (10 : Int32)), .val (.int (61 : Int32)), .val (.int (i2 &&& (2147483647 : Int32))), .val (.int (Int32.ofNat k40)), .val (.int (Int32.ofNat k93)), .unset] [(.int (((18 : Int32) + (Int32.ofNat (cs11 : List Int32).length)) + (Int32.ofNat k93))), (.ref x15)])) := c94.trans (by
      refine XS.istore X91.here hx rfl (hb hby at_191) rfl (l' := #[.val (.int i0), .val (.int i1), .val (.int i2), .val (.ref la_1), .val (.ref la_4), .val (.ref la_7), .val (.ref x11), .val (.ref x13), .val (.ref a15), .val (.ref x15), .val (.int (Int32.ofNat (cs11 : List Int32).length)), .val (.int (Int32.ofNat (cs13 : List Int32).length)), .val (.int (18 : Int32)), .val (.int (10 : Int32)), .val (.int (61 : Int32)), .val (.int (i2 &&& (2147483647 : Int32))), .val (.int (Int32.ofNat k40)), .val (.int (Int32.ofNat k93)), .unset]) rfl ?_
      refine XS.aload X91.here hx rfl (hb hby at_193) rfl rfl ?_
      refine XS.iload X91.here hx rfl (hb hby at_195) rfl ?_
      refine XS.iload X91.here hx rfl (hb hby at_197) rfl ?_
      refine XS.iadd X91.here hx rfl (hb hby at_199) rfl ?_
      refine XS.iload X91.here hx rfl (hb hby at_200) rfl ?_
      refine XS.iadd X91.here hx rfl (hb hby at_202) rfl ?_
      exact Steps.refl _)
    have eq96 : (((18 : Int32) + (Int32.ofNat (cs11 : List Int32).length)) + (Int32.ofNat k93)) = (Int32.ofNat (18 + (cs11 : List Int32).length + k93)) := own_s2 _ _
    have c96 : Steps p.tables e below S0 (T91.setTop (mkF m 203 #[.val (.int i0), .val (.int i1), .val (.int i2), .val (.ref la_1), .val (.ref la_4), .val (.ref la_7), .val (.ref x11), .val (.ref x13), .val (.ref a15), .val (.ref x15), .val (.int (Int32.ofNat (cs11 : List Int32).length)), .val (.int (Int32.ofNat (cs13 : List Int32).length)), .val (.int (18 : Int32)), .val (.int (10 : Int32)), .val (.int (61 : Int32)), .val (.int (i2 &&& (2147483647 : Int32))), .val (.int (Int32.ofNat k40)), .val (.int (Int32.ofNat k93)), .unset] [(.int (Int32.ofNat (18 + (cs11 : List Int32).length + k93))), (.ref x15)])) := by have q := c95; rw [eq96] at q; exact q
    obtain ⟨v97, T97, L97, X97, ⟨rfl, rfl, e97⟩, c97'⟩ := own_virt X91 hx hml hZ15 hown15 (hw _ (List.mem_of_getElem? (i := 252) rfl)) (hw _ (List.mem_of_getElem? (i := 253) rfl)) (hw _ (List.mem_of_getElem? (i := 255) rfl)) (hw _ (List.mem_of_getElem? (i := 254) rfl)) (hw _ (List.mem_of_getElem? (i := 255) rfl)) (by decide) (Q := fun v h' L => v = some (.int (own_at9 (own_msg cs11 cs13) (18 + (cs11 : List Int32).length + k93))) ∧ L = [] ∧ h' = T15.heap) (kc := 0) (ks := 0) (h := T15.heap) (W := 0) (b := x15) (argsL := [(.int (Int32.ofNat (18 + (cs11 : List Int32).length + k93)))]) (rest := []) (StrChars.Road.chN (s := (s.setVm T15.vm)) (R := room_1) (W := 0) hZ15 (own_wch hw) (kI := 4) (hw _ (List.mem_of_getElem? (i := 2) rfl)) (cs := (own_msg cs11 cs13)) Ex15 Vx15 Cx15 Kx15 (StrChars.Road.codOf (n := ((own_msg cs11 cs13) : List Int32).length) rfl (fun c hc => ((own_msgC hB11 hB13) c hc).rng.2)) (fun c hc => ((own_msgC hB11 hB13) c hc).rng2) (SC.ext ((((((O0.ext E1).ext E4).ext E7).keep K11 all0).keep K13 all0).keep K15 all0).2) hz (SF.ext ((((((O0.ext E1).ext E4).ext E7).keep K11 all0).keep K13 all0).keep K15 all0).2) hfm (by rw [own_msgL]; omega) (i := (18 + (cs11 : List Int32).length + k93)) (by first | omega | (rw [own_msgL]; omega) | (rw [own_pN]; omega) | (rw [own_mN]; omega) | (rw [own_sN]; omega)) rfl (by decide) (by decide)) Ex15 c96 (lenOf pd_23 rfl) rfl (hb hby at_203) e91
    have N97 := Fr.app N91 (Fr.nil _)
    have c97 : Steps p.tables e below S0 (T97.setTop (mkF m 206 #[.val (.int i0), .val (.int i1), .val (.int i2), .val (.ref la_1), .val (.ref la_4), .val (.ref la_7), .val (.ref x11), .val (.ref x13), .val (.ref a15), .val (.ref x15), .val (.int (Int32.ofNat (cs11 : List Int32).length)), .val (.int (Int32.ofNat (cs13 : List Int32).length)), .val (.int (18 : Int32)), .val (.int (10 : Int32)), .val (.int (61 : Int32)), .val (.int (i2 &&& (2147483647 : Int32))), .val (.int (Int32.ofNat k40)), .val (.int (Int32.ofNat k93)), .unset] [(.int (own_at9 (own_msg cs11 cs13) (18 + (cs11 : List Int32).length + k93)))])) := c97'
    have c98 : Steps p.tables e below S0 (T97.setTop (mkF m 210 #[.val (.int i0), .val (.int i1), .val (.int i2), .val (.ref la_1), .val (.ref la_4), .val (.ref la_7), .val (.ref x11), .val (.ref x13), .val (.ref a15), .val (.ref x15), .val (.int (Int32.ofNat (cs11 : List Int32).length)), .val (.int (Int32.ofNat (cs13 : List Int32).length)), .val (.int (18 : Int32)), .val (.int (10 : Int32)), .val (.int (61 : Int32)), .val (.int (i2 &&& (2147483647 : Int32))), .val (.int (Int32.ofNat k40)), .val (.int (Int32.ofNat k93)), .unset] [(.int (Int32.ofNat k93)), (.ref la_4), (.int (own_at9 (own_msg cs11 cs13) (18 + (cs11 : List Int32).length + k93)))])) := c97.trans (by
      refine XS.aload X97.here hx rfl (hb hby at_206) rfl rfl ?_
      refine XS.iload X97.here hx rfl (hb hby at_208) rfl ?_
      exact Steps.refl _)
    obtain ⟨v99, T99, L99, X99, ⟨rfl, rfl, e99⟩, c99'⟩ := own_virt X97 hx hml hZ15 hown15 (hw _ (List.mem_of_getElem? (i := 252) rfl)) (hw _ (List.mem_of_getElem? (i := 253) rfl)) (hw _ (List.mem_of_getElem? (i := 255) rfl)) (hw _ (List.mem_of_getElem? (i := 254) rfl)) (hw _ (List.mem_of_getElem? (i := 255) rfl)) (by decide) (Q := fun v h' L => v = some (.int (own_at9 own_m k93)) ∧ L = [] ∧ h' = T15.heap) (kc := 0) (ks := 0) (h := T15.heap) (W := 1) (b := la_4) (argsL := [(.int (Int32.ofNat k93))]) (rest := [(.int (own_at9 (own_msg cs11 cs13) (18 + (cs11 : List Int32).length + k93)))]) (StrChars.Road.chN (s := (s.setVm T15.vm)) (R := room_1) (W := 1) hZ15 (own_wch hw) (kI := 4) (hw _ (List.mem_of_getElem? (i := 2) rfl)) (cs := own_m) ((((Ea4.ext E7).keep K11).keep K13).keep K15) ((((Va4.ext E7).keep K11 nin0).keep K13 nin0).keep K15 nin0) ((((Ca4.ext E7).keep K11 nin0).keep K13 nin0).keep K15 nin0) ((((Kl6.ext E7).keep K11 nin0).keep K13 nin0).keep K15 nin0) (StrChars.Road.codOf (n := (own_m : List Int32).length) rfl (fun c hc => (own_mC c hc).rng.2)) (fun c hc => (own_mC c hc).rng2) (SC.ext ((((((O0.ext E1).ext E4).ext E7).keep K11 all0).keep K13 all0).keep K15 all0).2) hz (SF.ext ((((((O0.ext E1).ext E4).ext E7).keep K11 all0).keep K13 all0).keep K15 all0).2) hfm (by decide) (i := k93) (by first | omega | (rw [own_msgL]; omega) | (rw [own_pN]; omega) | (rw [own_mN]; omega) | (rw [own_sN]; omega)) rfl (by decide) (by decide)) ((((Ea4.ext E7).keep K11).keep K13).keep K15) c98 (lenOf pd_23 rfl) rfl (hb hby at_210) e97
    have N99 := Fr.app N97 (Fr.nil _)
    have c99 : Steps p.tables e below S0 (T99.setTop (mkF m 213 #[.val (.int i0), .val (.int i1), .val (.int i2), .val (.ref la_1), .val (.ref la_4), .val (.ref la_7), .val (.ref x11), .val (.ref x13), .val (.ref a15), .val (.ref x15), .val (.int (Int32.ofNat (cs11 : List Int32).length)), .val (.int (Int32.ofNat (cs13 : List Int32).length)), .val (.int (18 : Int32)), .val (.int (10 : Int32)), .val (.int (61 : Int32)), .val (.int (i2 &&& (2147483647 : Int32))), .val (.int (Int32.ofNat k40)), .val (.int (Int32.ofNat k93)), .unset] [(.int (own_at9 own_m k93)), (.int (own_at9 (own_msg cs11 cs13) (18 + (cs11 : List Int32).length + k93)))])) := c99'
    have c100 : Steps p.tables e below S0 (T99.setTop (mkF m 220 #[.val (.int i0), .val (.int i1), .val (.int i2), .val (.ref la_1), .val (.ref la_4), .val (.ref la_7), .val (.ref x11), .val (.ref x13), .val (.ref a15), .val (.ref x15), .val (.int (Int32.ofNat (cs11 : List Int32).length)), .val (.int (Int32.ofNat (cs13 : List Int32).length)), .val (.int (18 : Int32)), .val (.int (10 : Int32)), .val (.int (61 : Int32)), .val (.int (i2 &&& (2147483647 : Int32))), .val (.int (Int32.ofNat k40)), .val (.int (Int32.ofNat k93)), .unset] [(.int (Int32.ofNat (cs13 : List Int32).length))])) := c99.trans (by
      refine XS.icmpYes X99.here hx rfl (pc0 := 213) (pc' := 218) rfl (hb hby at_213) rfl (teq (own_m3 _ _ hj93)).1 (by decide) (by decide) ?_
      refine XS.iload X99.here hx rfl (hb hby at_218) rfl ?_
      exact Steps.refl _)
    rcases Nat.eq_zero_or_pos (cs13 : List Int32).length with zn0 | znp
    · skip
      have c101 : Steps p.tables e below S0 (T99.setTop (mkF m 263 #[.val (.int i0), .val (.int i1), .val (.int i2), .val (.ref la_1), .val (.ref la_4), .val (.ref la_7), .val (.ref x11), .val (.ref x13), .val (.ref a15), .val (.ref x15), .val (.int (Int32.ofNat (cs11 : List Int32).length)), .val (.int (Int32.ofNat (cs13 : List Int32).length)), .val (.int (18 : Int32)), .val (.int (10 : Int32)), .val (.int (61 : Int32)), .val (.int (i2 &&& (2147483647 : Int32))), .val (.int (Int32.ofNat k40)), .val (.int (Int32.ofNat k93)), .unset] [(.int ((i2 &&& (2147483647 : Int32)) % (61 : Int32)))])) := c100.trans (by
        refine XS.ifYes X99.here hx rfl (pc0 := 220) (pc' := 258) rfl (hb hby at_220) rfl ((if0 _ _).trans (flt (by rw [zn0]; decide)).2.2.2) (by decide) (by decide) ?_
        refine XS.iload X99.here hx rfl (hb hby at_258) rfl ?_
        refine XS.iload X99.here hx rfl (hb hby at_260) rfl ?_
        refine iremM X99 hx rfl (hb hby at_262) rfl (by decide) ?_
        exact Steps.refl _)
      obtain ⟨k102, hj102, ej102⟩ := own_remN i2 61 (by decide) (by omega)
      have eq103 : ((i2 &&& (2147483647 : Int32)) % (61 : Int32)) = (Int32.ofNat k102) := ej102
      have c103 : Steps p.tables e below S0 (T99.setTop (mkF m 263 #[.val (.int i0), .val (.int i1), .val (.int i2), .val (.ref la_1), .val (.ref la_4), .val (.ref la_7), .val (.ref x11), .val (.ref x13), .val (.ref a15), .val (.ref x15), .val (.int (Int32.ofNat (cs11 : List Int32).length)), .val (.int (Int32.ofNat (cs13 : List Int32).length)), .val (.int (18 : Int32)), .val (.int (10 : Int32)), .val (.int (61 : Int32)), .val (.int (i2 &&& (2147483647 : Int32))), .val (.int (Int32.ofNat k40)), .val (.int (Int32.ofNat k93)), .unset] [(.int (Int32.ofNat k102))])) := by have q := c101; rw [eq103] at q; exact q
      have c104 : Steps p.tables e below S0 (T99.setTop (mkF m 281 #[.val (.int i0), .val (.int i1), .val (.int i2), .val (.ref la_1), .val (.ref la_4), .val (.ref la_7), .val (.ref x11), .val (.ref x13), .val (.ref a15), .val (.ref x15), .val (.int (Int32.ofNat (cs11 : List Int32).length)), .val (.int (Int32.ofNat (cs13 : List Int32).length)), .val (.int (18 : Int32)), .val (.int (10 : Int32)), .val (.int (61 : Int32)), .val (.int (i2 &&& (2147483647 : Int32))), .val (.int (Int32.ofNat k40)), .val (.int (Int32.ofNat k93)), .val (.int (Int32.ofNat k102))] [(.int (((((18 : Int32) + (Int32.ofNat (cs11 : List Int32).length)) + (10 : Int32)) + (Int32.ofNat (cs13 : List Int32).length)) + (Int32.ofNat k102))), (.ref x15)])) := c103.trans (by
        refine XS.istore X99.here hx rfl (hb hby at_263) rfl (l' := #[.val (.int i0), .val (.int i1), .val (.int i2), .val (.ref la_1), .val (.ref la_4), .val (.ref la_7), .val (.ref x11), .val (.ref x13), .val (.ref a15), .val (.ref x15), .val (.int (Int32.ofNat (cs11 : List Int32).length)), .val (.int (Int32.ofNat (cs13 : List Int32).length)), .val (.int (18 : Int32)), .val (.int (10 : Int32)), .val (.int (61 : Int32)), .val (.int (i2 &&& (2147483647 : Int32))), .val (.int (Int32.ofNat k40)), .val (.int (Int32.ofNat k93)), .val (.int (Int32.ofNat k102))]) rfl ?_
        refine XS.aload X99.here hx rfl (hb hby at_265) rfl rfl ?_
        refine XS.iload X99.here hx rfl (hb hby at_267) rfl ?_
        refine XS.iload X99.here hx rfl (hb hby at_269) rfl ?_
        refine XS.iadd X99.here hx rfl (hb hby at_271) rfl ?_
        refine XS.iload X99.here hx rfl (hb hby at_272) rfl ?_
        refine XS.iadd X99.here hx rfl (hb hby at_274) rfl ?_
        refine XS.iload X99.here hx rfl (hb hby at_275) rfl ?_
        refine XS.iadd X99.here hx rfl (hb hby at_277) rfl ?_
        show Steps p.tables e below (T99.setTop (mkF m 278 #[.val (.int i0), .val (.int i1), .val (.int i2), .val (.ref la_1), .val (.ref la_4), .val (.ref la_7), .val (.ref x11), .val (.ref x13), .val (.ref a15), .val (.ref x15), .val (.int (Int32.ofNat (cs11 : List Int32).length)), .val (.int (Int32.ofNat (cs13 : List Int32).length)), .val (.int (18 : Int32)), .val (.int (10 : Int32)), .val (.int (61 : Int32)), .val (.int (i2 &&& (2147483647 : Int32))), .val (.int (Int32.ofNat k40)), .val (.int (Int32.ofNat k93)), .val (.int (Int32.ofNat k102))] [(.int ((((18 : Int32) + (Int32.ofNat (cs11 : List Int32).length)) + (10 : Int32)) + (Int32.ofNat (cs13 : List Int32).length))), (.ref x15)])) _
        refine XS.iload X99.here hx rfl (hb hby at_278) rfl ?_
        refine XS.iadd X99.here hx rfl (hb hby at_280) rfl ?_
        exact Steps.refl _)
      have eq105 : (((((18 : Int32) + (Int32.ofNat (cs11 : List Int32).length)) + (10 : Int32)) + (Int32.ofNat (cs13 : List Int32).length)) + (Int32.ofNat k102)) = (Int32.ofNat (18 + (cs11 : List Int32).length + 10 + (cs13 : List Int32).length + k102)) := own_s4 _ _ _
      have c105 : Steps p.tables e below S0 (T99.setTop (mkF m 281 #[.val (.int i0), .val (.int i1), .val (.int i2), .val (.ref la_1), .val (.ref la_4), .val (.ref la_7), .val (.ref x11), .val (.ref x13), .val (.ref a15), .val (.ref x15), .val (.int (Int32.ofNat (cs11 : List Int32).length)), .val (.int (Int32.ofNat (cs13 : List Int32).length)), .val (.int (18 : Int32)), .val (.int (10 : Int32)), .val (.int (61 : Int32)), .val (.int (i2 &&& (2147483647 : Int32))), .val (.int (Int32.ofNat k40)), .val (.int (Int32.ofNat k93)), .val (.int (Int32.ofNat k102))] [(.int (Int32.ofNat (18 + (cs11 : List Int32).length + 10 + (cs13 : List Int32).length + k102))), (.ref x15)])) := by have q := c104; rw [eq105] at q; exact q
      obtain ⟨v106, T106, L106, X106, ⟨rfl, rfl, e106⟩, c106'⟩ := own_virt X99 hx hml hZ15 hown15 (hw _ (List.mem_of_getElem? (i := 252) rfl)) (hw _ (List.mem_of_getElem? (i := 253) rfl)) (hw _ (List.mem_of_getElem? (i := 255) rfl)) (hw _ (List.mem_of_getElem? (i := 254) rfl)) (hw _ (List.mem_of_getElem? (i := 255) rfl)) (by decide) (Q := fun v h' L => v = some (.int (own_at9 (own_msg cs11 cs13) (18 + (cs11 : List Int32).length + 10 + (cs13 : List Int32).length + k102))) ∧ L = [] ∧ h' = T15.heap) (kc := 0) (ks := 0) (h := T15.heap) (W := 0) (b := x15) (argsL := [(.int (Int32.ofNat (18 + (cs11 : List Int32).length + 10 + (cs13 : List Int32).length + k102)))]) (rest := []) (StrChars.Road.chN (s := (s.setVm T15.vm)) (R := room_1) (W := 0) hZ15 (own_wch hw) (kI := 4) (hw _ (List.mem_of_getElem? (i := 2) rfl)) (cs := (own_msg cs11 cs13)) Ex15 Vx15 Cx15 Kx15 (StrChars.Road.codOf (n := ((own_msg cs11 cs13) : List Int32).length) rfl (fun c hc => ((own_msgC hB11 hB13) c hc).rng.2)) (fun c hc => ((own_msgC hB11 hB13) c hc).rng2) (SC.ext ((((((O0.ext E1).ext E4).ext E7).keep K11 all0).keep K13 all0).keep K15 all0).2) hz (SF.ext ((((((O0.ext E1).ext E4).ext E7).keep K11 all0).keep K13 all0).keep K15 all0).2) hfm (by rw [own_msgL]; omega) (i := (18 + (cs11 : List Int32).length + 10 + (cs13 : List Int32).length + k102)) (by first | omega | (rw [own_msgL]; omega) | (rw [own_pN]; omega) | (rw [own_mN]; omega) | (rw [own_sN]; omega)) rfl (by decide) (by decide)) Ex15 c105 (lenOf pd_23 rfl) rfl (hb hby at_281) e99
      have N106 := Fr.app N99 (Fr.nil _)
      have c106 : Steps p.tables e below S0 (T106.setTop (mkF m 284 #[.val (.int i0), .val (.int i1), .val (.int i2), .val (.ref la_1), .val (.ref la_4), .val (.ref la_7), .val (.ref x11), .val (.ref x13), .val (.ref a15), .val (.ref x15), .val (.int (Int32.ofNat (cs11 : List Int32).length)), .val (.int (Int32.ofNat (cs13 : List Int32).length)), .val (.int (18 : Int32)), .val (.int (10 : Int32)), .val (.int (61 : Int32)), .val (.int (i2 &&& (2147483647 : Int32))), .val (.int (Int32.ofNat k40)), .val (.int (Int32.ofNat k93)), .val (.int (Int32.ofNat k102))] [(.int (own_at9 (own_msg cs11 cs13) (18 + (cs11 : List Int32).length + 10 + (cs13 : List Int32).length + k102)))])) := c106'
      have c107 : Steps p.tables e below S0 (T106.setTop (mkF m 288 #[.val (.int i0), .val (.int i1), .val (.int i2), .val (.ref la_1), .val (.ref la_4), .val (.ref la_7), .val (.ref x11), .val (.ref x13), .val (.ref a15), .val (.ref x15), .val (.int (Int32.ofNat (cs11 : List Int32).length)), .val (.int (Int32.ofNat (cs13 : List Int32).length)), .val (.int (18 : Int32)), .val (.int (10 : Int32)), .val (.int (61 : Int32)), .val (.int (i2 &&& (2147483647 : Int32))), .val (.int (Int32.ofNat k40)), .val (.int (Int32.ofNat k93)), .val (.int (Int32.ofNat k102))] [(.int (Int32.ofNat k102)), (.ref la_7), (.int (own_at9 (own_msg cs11 cs13) (18 + (cs11 : List Int32).length + 10 + (cs13 : List Int32).length + k102)))])) := c106.trans (by
        refine XS.aload X106.here hx rfl (hb hby at_284) rfl rfl ?_
        refine XS.iload X106.here hx rfl (hb hby at_286) rfl ?_
        exact Steps.refl _)
      obtain ⟨v108, T108, L108, X108, ⟨rfl, rfl, e108⟩, c108'⟩ := own_virt X106 hx hml hZ15 hown15 (hw _ (List.mem_of_getElem? (i := 252) rfl)) (hw _ (List.mem_of_getElem? (i := 253) rfl)) (hw _ (List.mem_of_getElem? (i := 255) rfl)) (hw _ (List.mem_of_getElem? (i := 254) rfl)) (hw _ (List.mem_of_getElem? (i := 255) rfl)) (by decide) (Q := fun v h' L => v = some (.int (own_at9 own_s k102)) ∧ L = [] ∧ h' = T15.heap) (kc := 0) (ks := 0) (h := T15.heap) (W := 1) (b := la_7) (argsL := [(.int (Int32.ofNat k102))]) (rest := [(.int (own_at9 (own_msg cs11 cs13) (18 + (cs11 : List Int32).length + 10 + (cs13 : List Int32).length + k102)))]) (StrChars.Road.chN (s := (s.setVm T15.vm)) (R := room_1) (W := 1) hZ15 (own_wch hw) (kI := 4) (hw _ (List.mem_of_getElem? (i := 2) rfl)) (cs := own_s) (((Ea7.keep K11).keep K13).keep K15) (((Va7.keep K11 nin0).keep K13 nin0).keep K15 nin0) (((Ca7.keep K11 nin0).keep K13 nin0).keep K15 nin0) (((Kl9.keep K11 nin0).keep K13 nin0).keep K15 nin0) (StrChars.Road.codOf (n := (own_s : List Int32).length) rfl (fun c hc => (own_sC c hc).rng.2)) (fun c hc => (own_sC c hc).rng2) (SC.ext ((((((O0.ext E1).ext E4).ext E7).keep K11 all0).keep K13 all0).keep K15 all0).2) hz (SF.ext ((((((O0.ext E1).ext E4).ext E7).keep K11 all0).keep K13 all0).keep K15 all0).2) hfm (by decide) (i := k102) (by first | omega | (rw [own_msgL]; omega) | (rw [own_pN]; omega) | (rw [own_mN]; omega) | (rw [own_sN]; omega)) rfl (by decide) (by decide)) (((Ea7.keep K11).keep K13).keep K15) c107 (lenOf pd_23 rfl) rfl (hb hby at_288) e106
      have N108 := Fr.app N106 (Fr.nil _)
      have c108 : Steps p.tables e below S0 (T108.setTop (mkF m 291 #[.val (.int i0), .val (.int i1), .val (.int i2), .val (.ref la_1), .val (.ref la_4), .val (.ref la_7), .val (.ref x11), .val (.ref x13), .val (.ref a15), .val (.ref x15), .val (.int (Int32.ofNat (cs11 : List Int32).length)), .val (.int (Int32.ofNat (cs13 : List Int32).length)), .val (.int (18 : Int32)), .val (.int (10 : Int32)), .val (.int (61 : Int32)), .val (.int (i2 &&& (2147483647 : Int32))), .val (.int (Int32.ofNat k40)), .val (.int (Int32.ofNat k93)), .val (.int (Int32.ofNat k102))] [(.int (own_at9 own_s k102)), (.int (own_at9 (own_msg cs11 cs13) (18 + (cs11 : List Int32).length + 10 + (cs13 : List Int32).length + k102)))])) := c108'
      have c109 : Steps p.tables e below S0 (T108.setTop (mkF m 299 #[.val (.int i0), .val (.int i1), .val (.int i2), .val (.ref la_1), .val (.ref la_4), .val (.ref la_7), .val (.ref x11), .val (.ref x13), .val (.ref a15), .val (.ref x15), .val (.int (Int32.ofNat (cs11 : List Int32).length)), .val (.int (Int32.ofNat (cs13 : List Int32).length)), .val (.int (18 : Int32)), .val (.int (10 : Int32)), .val (.int (61 : Int32)), .val (.int (i2 &&& (2147483647 : Int32))), .val (.int (Int32.ofNat k40)), .val (.int (Int32.ofNat k93)), .val (.int (Int32.ofNat k102))] [(.int (1 : Int32))])) := c108.trans (by
        refine XS.icmpNo X108.here hx rfl (hb hby at_291) rfl (teq (own_m5 _ _ _)).2 ?_
        refine XS.iconst X108.here hx rfl (hb hby at_294) ?_
        refine XS.goto X108.here hx rfl (pc0 := 295) (pc' := 299) rfl (hb hby at_295) (by decide) (by decide) ?_
        exact Steps.refl _)
      refine ⟨T108, T15.vm, _, (some (.int (1 : Int32))), _, _, _, X108, by decide, by decide, (fun q => by cases q), N108, hS15, by rw [e108]; exact (Nat.le_refl _), hZ15, by rw [e108]; exact CR15, ?_, fun fs hr => ?_⟩
      · skip
        exact rfl
      · exact c109.trans (retN X108 hx (t := .boolean) hret (by simp) (hb hby at_299) hr)
    · skip
      have c111 : Steps p.tables e below S0 (T99.setTop (mkF m 228 #[.val (.int i0), .val (.int i1), .val (.int i2), .val (.ref la_1), .val (.ref la_4), .val (.ref la_7), .val (.ref x11), .val (.ref x13), .val (.ref a15), .val (.ref x15), .val (.int (Int32.ofNat (cs11 : List Int32).length)), .val (.int (Int32.ofNat (cs13 : List Int32).length)), .val (.int (18 : Int32)), .val (.int (10 : Int32)), .val (.int (61 : Int32)), .val (.int (i2 &&& (2147483647 : Int32))), .val (.int (Int32.ofNat k40)), .val (.int (Int32.ofNat k93)), .unset] [(.int ((i2 &&& (2147483647 : Int32)) % (Int32.ofNat (cs13 : List Int32).length)))])) := c100.trans (by
        refine XS.ifNo X99.here hx rfl (hb hby at_220) rfl ((if0 _ _).trans (tlt ((own_lt32 (i := 0) (by decide) (by omega)).mpr znp)).2.2.2) ?_
        refine XS.iload X99.here hx rfl (hb hby at_223) rfl ?_
        refine XS.iload X99.here hx rfl (hb hby at_225) rfl ?_
        refine iremM X99 hx rfl (hb hby at_227) rfl (own_nz znp (by omega)) ?_
        exact Steps.refl _)
      obtain ⟨k112, hj112, ej112⟩ := own_remN i2 (cs13 : List Int32).length znp (by omega)
      have eq113 : ((i2 &&& (2147483647 : Int32)) % (Int32.ofNat (cs13 : List Int32).length)) = (Int32.ofNat k112) := ej112
      have c113 : Steps p.tables e below S0 (T99.setTop (mkF m 228 #[.val (.int i0), .val (.int i1), .val (.int i2), .val (.ref la_1), .val (.ref la_4), .val (.ref la_7), .val (.ref x11), .val (.ref x13), .val (.ref a15), .val (.ref x15), .val (.int (Int32.ofNat (cs11 : List Int32).length)), .val (.int (Int32.ofNat (cs13 : List Int32).length)), .val (.int (18 : Int32)), .val (.int (10 : Int32)), .val (.int (61 : Int32)), .val (.int (i2 &&& (2147483647 : Int32))), .val (.int (Int32.ofNat k40)), .val (.int (Int32.ofNat k93)), .unset] [(.int (Int32.ofNat k112))])) := by have q := c111; rw [eq113] at q; exact q
      have c114 : Steps p.tables e below S0 (T99.setTop (mkF m 243 #[.val (.int i0), .val (.int i1), .val (.int i2), .val (.ref la_1), .val (.ref la_4), .val (.ref la_7), .val (.ref x11), .val (.ref x13), .val (.ref a15), .val (.ref x15), .val (.int (Int32.ofNat (cs11 : List Int32).length)), .val (.int (Int32.ofNat (cs13 : List Int32).length)), .val (.int (18 : Int32)), .val (.int (10 : Int32)), .val (.int (61 : Int32)), .val (.int (i2 &&& (2147483647 : Int32))), .val (.int (Int32.ofNat k40)), .val (.int (Int32.ofNat k93)), .val (.int (Int32.ofNat k112))] [(.int ((((18 : Int32) + (Int32.ofNat (cs11 : List Int32).length)) + (10 : Int32)) + (Int32.ofNat k112))), (.ref x15)])) := c113.trans (by
        refine XS.istore X99.here hx rfl (hb hby at_228) rfl (l' := #[.val (.int i0), .val (.int i1), .val (.int i2), .val (.ref la_1), .val (.ref la_4), .val (.ref la_7), .val (.ref x11), .val (.ref x13), .val (.ref a15), .val (.ref x15), .val (.int (Int32.ofNat (cs11 : List Int32).length)), .val (.int (Int32.ofNat (cs13 : List Int32).length)), .val (.int (18 : Int32)), .val (.int (10 : Int32)), .val (.int (61 : Int32)), .val (.int (i2 &&& (2147483647 : Int32))), .val (.int (Int32.ofNat k40)), .val (.int (Int32.ofNat k93)), .val (.int (Int32.ofNat k112))]) rfl ?_
        refine XS.aload X99.here hx rfl (hb hby at_230) rfl rfl ?_
        refine XS.iload X99.here hx rfl (hb hby at_232) rfl ?_
        refine XS.iload X99.here hx rfl (hb hby at_234) rfl ?_
        refine XS.iadd X99.here hx rfl (hb hby at_236) rfl ?_
        refine XS.iload X99.here hx rfl (hb hby at_237) rfl ?_
        refine XS.iadd X99.here hx rfl (hb hby at_239) rfl ?_
        refine XS.iload X99.here hx rfl (hb hby at_240) rfl ?_
        refine XS.iadd X99.here hx rfl (hb hby at_242) rfl ?_
        show Steps p.tables e below (T99.setTop (mkF m 243 #[.val (.int i0), .val (.int i1), .val (.int i2), .val (.ref la_1), .val (.ref la_4), .val (.ref la_7), .val (.ref x11), .val (.ref x13), .val (.ref a15), .val (.ref x15), .val (.int (Int32.ofNat (cs11 : List Int32).length)), .val (.int (Int32.ofNat (cs13 : List Int32).length)), .val (.int (18 : Int32)), .val (.int (10 : Int32)), .val (.int (61 : Int32)), .val (.int (i2 &&& (2147483647 : Int32))), .val (.int (Int32.ofNat k40)), .val (.int (Int32.ofNat k93)), .val (.int (Int32.ofNat k112))] [(.int ((((18 : Int32) + (Int32.ofNat (cs11 : List Int32).length)) + (10 : Int32)) + (Int32.ofNat k112))), (.ref x15)])) _
        exact Steps.refl _)
      have eq115 : ((((18 : Int32) + (Int32.ofNat (cs11 : List Int32).length)) + (10 : Int32)) + (Int32.ofNat k112)) = (Int32.ofNat (18 + (cs11 : List Int32).length + 10 + k112)) := own_s3 _ _
      have c115 : Steps p.tables e below S0 (T99.setTop (mkF m 243 #[.val (.int i0), .val (.int i1), .val (.int i2), .val (.ref la_1), .val (.ref la_4), .val (.ref la_7), .val (.ref x11), .val (.ref x13), .val (.ref a15), .val (.ref x15), .val (.int (Int32.ofNat (cs11 : List Int32).length)), .val (.int (Int32.ofNat (cs13 : List Int32).length)), .val (.int (18 : Int32)), .val (.int (10 : Int32)), .val (.int (61 : Int32)), .val (.int (i2 &&& (2147483647 : Int32))), .val (.int (Int32.ofNat k40)), .val (.int (Int32.ofNat k93)), .val (.int (Int32.ofNat k112))] [(.int (Int32.ofNat (18 + (cs11 : List Int32).length + 10 + k112))), (.ref x15)])) := by have q := c114; rw [eq115] at q; exact q
      obtain ⟨v116, T116, L116, X116, ⟨rfl, rfl, e116⟩, c116'⟩ := own_virt X99 hx hml hZ15 hown15 (hw _ (List.mem_of_getElem? (i := 252) rfl)) (hw _ (List.mem_of_getElem? (i := 253) rfl)) (hw _ (List.mem_of_getElem? (i := 255) rfl)) (hw _ (List.mem_of_getElem? (i := 254) rfl)) (hw _ (List.mem_of_getElem? (i := 255) rfl)) (by decide) (Q := fun v h' L => v = some (.int (own_at9 (own_msg cs11 cs13) (18 + (cs11 : List Int32).length + 10 + k112))) ∧ L = [] ∧ h' = T15.heap) (kc := 0) (ks := 0) (h := T15.heap) (W := 0) (b := x15) (argsL := [(.int (Int32.ofNat (18 + (cs11 : List Int32).length + 10 + k112)))]) (rest := []) (StrChars.Road.chN (s := (s.setVm T15.vm)) (R := room_1) (W := 0) hZ15 (own_wch hw) (kI := 4) (hw _ (List.mem_of_getElem? (i := 2) rfl)) (cs := (own_msg cs11 cs13)) Ex15 Vx15 Cx15 Kx15 (StrChars.Road.codOf (n := ((own_msg cs11 cs13) : List Int32).length) rfl (fun c hc => ((own_msgC hB11 hB13) c hc).rng.2)) (fun c hc => ((own_msgC hB11 hB13) c hc).rng2) (SC.ext ((((((O0.ext E1).ext E4).ext E7).keep K11 all0).keep K13 all0).keep K15 all0).2) hz (SF.ext ((((((O0.ext E1).ext E4).ext E7).keep K11 all0).keep K13 all0).keep K15 all0).2) hfm (by rw [own_msgL]; omega) (i := (18 + (cs11 : List Int32).length + 10 + k112)) (by first | omega | (rw [own_msgL]; omega) | (rw [own_pN]; omega) | (rw [own_mN]; omega) | (rw [own_sN]; omega)) rfl (by decide) (by decide)) Ex15 c115 (lenOf pd_23 rfl) rfl (hb hby at_243) e99
      have N116 := Fr.app N99 (Fr.nil _)
      have c116 : Steps p.tables e below S0 (T116.setTop (mkF m 246 #[.val (.int i0), .val (.int i1), .val (.int i2), .val (.ref la_1), .val (.ref la_4), .val (.ref la_7), .val (.ref x11), .val (.ref x13), .val (.ref a15), .val (.ref x15), .val (.int (Int32.ofNat (cs11 : List Int32).length)), .val (.int (Int32.ofNat (cs13 : List Int32).length)), .val (.int (18 : Int32)), .val (.int (10 : Int32)), .val (.int (61 : Int32)), .val (.int (i2 &&& (2147483647 : Int32))), .val (.int (Int32.ofNat k40)), .val (.int (Int32.ofNat k93)), .val (.int (Int32.ofNat k112))] [(.int (own_at9 (own_msg cs11 cs13) (18 + (cs11 : List Int32).length + 10 + k112)))])) := c116'
      have c117 : Steps p.tables e below S0 (T116.setTop (mkF m 250 #[.val (.int i0), .val (.int i1), .val (.int i2), .val (.ref la_1), .val (.ref la_4), .val (.ref la_7), .val (.ref x11), .val (.ref x13), .val (.ref a15), .val (.ref x15), .val (.int (Int32.ofNat (cs11 : List Int32).length)), .val (.int (Int32.ofNat (cs13 : List Int32).length)), .val (.int (18 : Int32)), .val (.int (10 : Int32)), .val (.int (61 : Int32)), .val (.int (i2 &&& (2147483647 : Int32))), .val (.int (Int32.ofNat k40)), .val (.int (Int32.ofNat k93)), .val (.int (Int32.ofNat k112))] [(.int (Int32.ofNat k112)), (.ref x13), (.int (own_at9 (own_msg cs11 cs13) (18 + (cs11 : List Int32).length + 10 + k112)))])) := c116.trans (by
        refine XS.aload X116.here hx rfl (hb hby at_246) rfl rfl ?_
        refine XS.iload X116.here hx rfl (hb hby at_248) rfl ?_
        exact Steps.refl _)
      obtain ⟨v118, T118, L118, X118, ⟨rfl, rfl, e118⟩, c118'⟩ := own_virt X116 hx hml hZ15 hown15 (hw _ (List.mem_of_getElem? (i := 252) rfl)) (hw _ (List.mem_of_getElem? (i := 253) rfl)) (hw _ (List.mem_of_getElem? (i := 255) rfl)) (hw _ (List.mem_of_getElem? (i := 254) rfl)) (hw _ (List.mem_of_getElem? (i := 255) rfl)) (by decide) (Q := fun v h' L => v = some (.int (own_at9 cs13 k112)) ∧ L = [] ∧ h' = T15.heap) (kc := 0) (ks := 0) (h := T15.heap) (W := 1) (b := x13) (argsL := [(.int (Int32.ofNat k112))]) (rest := [(.int (own_at9 (own_msg cs11 cs13) (18 + (cs11 : List Int32).length + 10 + k112)))]) (StrChars.Road.chN (s := (s.setVm T15.vm)) (R := room_1) (W := 1) hZ15 (own_wch hw) (kI := 4) (hw _ (List.mem_of_getElem? (i := 2) rfl)) (cs := cs13) (E13.keep K15) (V13.keep K15 nin0) (Cd13.keep K15 nin0) (Kb13.keep K15 nin0) (StrChars.Road.codOf (n := (cs13 : List Int32).length) rfl (fun c hc => (hB13 c hc).rng.2)) (fun c hc => (hB13 c hc).rng2) (SC.ext ((((((O0.ext E1).ext E4).ext E7).keep K11 all0).keep K13 all0).keep K15 all0).2) hz (SF.ext ((((((O0.ext E1).ext E4).ext E7).keep K11 all0).keep K13 all0).keep K15 all0).2) hfm (Nat.le_trans hn13 (by decide)) (i := k112) (by first | omega | (rw [own_msgL]; omega) | (rw [own_pN]; omega) | (rw [own_mN]; omega) | (rw [own_sN]; omega)) rfl (by decide) (by decide)) (E13.keep K15) c117 (lenOf pd_23 rfl) rfl (hb hby at_250) e116
      have N118 := Fr.app N116 (Fr.nil _)
      have c118 : Steps p.tables e below S0 (T118.setTop (mkF m 253 #[.val (.int i0), .val (.int i1), .val (.int i2), .val (.ref la_1), .val (.ref la_4), .val (.ref la_7), .val (.ref x11), .val (.ref x13), .val (.ref a15), .val (.ref x15), .val (.int (Int32.ofNat (cs11 : List Int32).length)), .val (.int (Int32.ofNat (cs13 : List Int32).length)), .val (.int (18 : Int32)), .val (.int (10 : Int32)), .val (.int (61 : Int32)), .val (.int (i2 &&& (2147483647 : Int32))), .val (.int (Int32.ofNat k40)), .val (.int (Int32.ofNat k93)), .val (.int (Int32.ofNat k112))] [(.int (own_at9 cs13 k112)), (.int (own_at9 (own_msg cs11 cs13) (18 + (cs11 : List Int32).length + 10 + k112)))])) := c118'
      have c119 : Steps p.tables e below S0 (T118.setTop (mkF m 263 #[.val (.int i0), .val (.int i1), .val (.int i2), .val (.ref la_1), .val (.ref la_4), .val (.ref la_7), .val (.ref x11), .val (.ref x13), .val (.ref a15), .val (.ref x15), .val (.int (Int32.ofNat (cs11 : List Int32).length)), .val (.int (Int32.ofNat (cs13 : List Int32).length)), .val (.int (18 : Int32)), .val (.int (10 : Int32)), .val (.int (61 : Int32)), .val (.int (i2 &&& (2147483647 : Int32))), .val (.int (Int32.ofNat k40)), .val (.int (Int32.ofNat k93)), .val (.int (Int32.ofNat k112))] [(.int ((i2 &&& (2147483647 : Int32)) % (61 : Int32)))])) := c118.trans (by
        refine XS.icmpYes X118.here hx rfl (pc0 := 253) (pc' := 258) rfl (hb hby at_253) rfl (teq (own_m4 _ _ hj112)).1 (by decide) (by decide) ?_
        refine XS.iload X118.here hx rfl (hb hby at_258) rfl ?_
        refine XS.iload X118.here hx rfl (hb hby at_260) rfl ?_
        refine iremM X118 hx rfl (hb hby at_262) rfl (by decide) ?_
        exact Steps.refl _)
      obtain ⟨k120, hj120, ej120⟩ := own_remN i2 61 (by decide) (by omega)
      have eq121 : ((i2 &&& (2147483647 : Int32)) % (61 : Int32)) = (Int32.ofNat k120) := ej120
      have c121 : Steps p.tables e below S0 (T118.setTop (mkF m 263 #[.val (.int i0), .val (.int i1), .val (.int i2), .val (.ref la_1), .val (.ref la_4), .val (.ref la_7), .val (.ref x11), .val (.ref x13), .val (.ref a15), .val (.ref x15), .val (.int (Int32.ofNat (cs11 : List Int32).length)), .val (.int (Int32.ofNat (cs13 : List Int32).length)), .val (.int (18 : Int32)), .val (.int (10 : Int32)), .val (.int (61 : Int32)), .val (.int (i2 &&& (2147483647 : Int32))), .val (.int (Int32.ofNat k40)), .val (.int (Int32.ofNat k93)), .val (.int (Int32.ofNat k112))] [(.int (Int32.ofNat k120))])) := by have q := c119; rw [eq121] at q; exact q
      have c122 : Steps p.tables e below S0 (T118.setTop (mkF m 281 #[.val (.int i0), .val (.int i1), .val (.int i2), .val (.ref la_1), .val (.ref la_4), .val (.ref la_7), .val (.ref x11), .val (.ref x13), .val (.ref a15), .val (.ref x15), .val (.int (Int32.ofNat (cs11 : List Int32).length)), .val (.int (Int32.ofNat (cs13 : List Int32).length)), .val (.int (18 : Int32)), .val (.int (10 : Int32)), .val (.int (61 : Int32)), .val (.int (i2 &&& (2147483647 : Int32))), .val (.int (Int32.ofNat k40)), .val (.int (Int32.ofNat k93)), .val (.int (Int32.ofNat k120))] [(.int (((((18 : Int32) + (Int32.ofNat (cs11 : List Int32).length)) + (10 : Int32)) + (Int32.ofNat (cs13 : List Int32).length)) + (Int32.ofNat k120))), (.ref x15)])) := c121.trans (by
        refine XS.istore X118.here hx rfl (hb hby at_263) rfl (l' := #[.val (.int i0), .val (.int i1), .val (.int i2), .val (.ref la_1), .val (.ref la_4), .val (.ref la_7), .val (.ref x11), .val (.ref x13), .val (.ref a15), .val (.ref x15), .val (.int (Int32.ofNat (cs11 : List Int32).length)), .val (.int (Int32.ofNat (cs13 : List Int32).length)), .val (.int (18 : Int32)), .val (.int (10 : Int32)), .val (.int (61 : Int32)), .val (.int (i2 &&& (2147483647 : Int32))), .val (.int (Int32.ofNat k40)), .val (.int (Int32.ofNat k93)), .val (.int (Int32.ofNat k120))]) rfl ?_
        refine XS.aload X118.here hx rfl (hb hby at_265) rfl rfl ?_
        refine XS.iload X118.here hx rfl (hb hby at_267) rfl ?_
        refine XS.iload X118.here hx rfl (hb hby at_269) rfl ?_
        refine XS.iadd X118.here hx rfl (hb hby at_271) rfl ?_
        refine XS.iload X118.here hx rfl (hb hby at_272) rfl ?_
        refine XS.iadd X118.here hx rfl (hb hby at_274) rfl ?_
        refine XS.iload X118.here hx rfl (hb hby at_275) rfl ?_
        refine XS.iadd X118.here hx rfl (hb hby at_277) rfl ?_
        show Steps p.tables e below (T118.setTop (mkF m 278 #[.val (.int i0), .val (.int i1), .val (.int i2), .val (.ref la_1), .val (.ref la_4), .val (.ref la_7), .val (.ref x11), .val (.ref x13), .val (.ref a15), .val (.ref x15), .val (.int (Int32.ofNat (cs11 : List Int32).length)), .val (.int (Int32.ofNat (cs13 : List Int32).length)), .val (.int (18 : Int32)), .val (.int (10 : Int32)), .val (.int (61 : Int32)), .val (.int (i2 &&& (2147483647 : Int32))), .val (.int (Int32.ofNat k40)), .val (.int (Int32.ofNat k93)), .val (.int (Int32.ofNat k120))] [(.int ((((18 : Int32) + (Int32.ofNat (cs11 : List Int32).length)) + (10 : Int32)) + (Int32.ofNat (cs13 : List Int32).length))), (.ref x15)])) _
        refine XS.iload X118.here hx rfl (hb hby at_278) rfl ?_
        refine XS.iadd X118.here hx rfl (hb hby at_280) rfl ?_
        exact Steps.refl _)
      have eq123 : (((((18 : Int32) + (Int32.ofNat (cs11 : List Int32).length)) + (10 : Int32)) + (Int32.ofNat (cs13 : List Int32).length)) + (Int32.ofNat k120)) = (Int32.ofNat (18 + (cs11 : List Int32).length + 10 + (cs13 : List Int32).length + k120)) := own_s4 _ _ _
      have c123 : Steps p.tables e below S0 (T118.setTop (mkF m 281 #[.val (.int i0), .val (.int i1), .val (.int i2), .val (.ref la_1), .val (.ref la_4), .val (.ref la_7), .val (.ref x11), .val (.ref x13), .val (.ref a15), .val (.ref x15), .val (.int (Int32.ofNat (cs11 : List Int32).length)), .val (.int (Int32.ofNat (cs13 : List Int32).length)), .val (.int (18 : Int32)), .val (.int (10 : Int32)), .val (.int (61 : Int32)), .val (.int (i2 &&& (2147483647 : Int32))), .val (.int (Int32.ofNat k40)), .val (.int (Int32.ofNat k93)), .val (.int (Int32.ofNat k120))] [(.int (Int32.ofNat (18 + (cs11 : List Int32).length + 10 + (cs13 : List Int32).length + k120))), (.ref x15)])) := by have q := c122; rw [eq123] at q; exact q
      obtain ⟨v124, T124, L124, X124, ⟨rfl, rfl, e124⟩, c124'⟩ := own_virt X118 hx hml hZ15 hown15 (hw _ (List.mem_of_getElem? (i := 252) rfl)) (hw _ (List.mem_of_getElem? (i := 253) rfl)) (hw _ (List.mem_of_getElem? (i := 255) rfl)) (hw _ (List.mem_of_getElem? (i := 254) rfl)) (hw _ (List.mem_of_getElem? (i := 255) rfl)) (by decide) (Q := fun v h' L => v = some (.int (own_at9 (own_msg cs11 cs13) (18 + (cs11 : List Int32).length + 10 + (cs13 : List Int32).length + k120))) ∧ L = [] ∧ h' = T15.heap) (kc := 0) (ks := 0) (h := T15.heap) (W := 0) (b := x15) (argsL := [(.int (Int32.ofNat (18 + (cs11 : List Int32).length + 10 + (cs13 : List Int32).length + k120)))]) (rest := []) (StrChars.Road.chN (s := (s.setVm T15.vm)) (R := room_1) (W := 0) hZ15 (own_wch hw) (kI := 4) (hw _ (List.mem_of_getElem? (i := 2) rfl)) (cs := (own_msg cs11 cs13)) Ex15 Vx15 Cx15 Kx15 (StrChars.Road.codOf (n := ((own_msg cs11 cs13) : List Int32).length) rfl (fun c hc => ((own_msgC hB11 hB13) c hc).rng.2)) (fun c hc => ((own_msgC hB11 hB13) c hc).rng2) (SC.ext ((((((O0.ext E1).ext E4).ext E7).keep K11 all0).keep K13 all0).keep K15 all0).2) hz (SF.ext ((((((O0.ext E1).ext E4).ext E7).keep K11 all0).keep K13 all0).keep K15 all0).2) hfm (by rw [own_msgL]; omega) (i := (18 + (cs11 : List Int32).length + 10 + (cs13 : List Int32).length + k120)) (by first | omega | (rw [own_msgL]; omega) | (rw [own_pN]; omega) | (rw [own_mN]; omega) | (rw [own_sN]; omega)) rfl (by decide) (by decide)) Ex15 c123 (lenOf pd_23 rfl) rfl (hb hby at_281) e118
      have N124 := Fr.app N118 (Fr.nil _)
      have c124 : Steps p.tables e below S0 (T124.setTop (mkF m 284 #[.val (.int i0), .val (.int i1), .val (.int i2), .val (.ref la_1), .val (.ref la_4), .val (.ref la_7), .val (.ref x11), .val (.ref x13), .val (.ref a15), .val (.ref x15), .val (.int (Int32.ofNat (cs11 : List Int32).length)), .val (.int (Int32.ofNat (cs13 : List Int32).length)), .val (.int (18 : Int32)), .val (.int (10 : Int32)), .val (.int (61 : Int32)), .val (.int (i2 &&& (2147483647 : Int32))), .val (.int (Int32.ofNat k40)), .val (.int (Int32.ofNat k93)), .val (.int (Int32.ofNat k120))] [(.int (own_at9 (own_msg cs11 cs13) (18 + (cs11 : List Int32).length + 10 + (cs13 : List Int32).length + k120)))])) := c124'
      have c125 : Steps p.tables e below S0 (T124.setTop (mkF m 288 #[.val (.int i0), .val (.int i1), .val (.int i2), .val (.ref la_1), .val (.ref la_4), .val (.ref la_7), .val (.ref x11), .val (.ref x13), .val (.ref a15), .val (.ref x15), .val (.int (Int32.ofNat (cs11 : List Int32).length)), .val (.int (Int32.ofNat (cs13 : List Int32).length)), .val (.int (18 : Int32)), .val (.int (10 : Int32)), .val (.int (61 : Int32)), .val (.int (i2 &&& (2147483647 : Int32))), .val (.int (Int32.ofNat k40)), .val (.int (Int32.ofNat k93)), .val (.int (Int32.ofNat k120))] [(.int (Int32.ofNat k120)), (.ref la_7), (.int (own_at9 (own_msg cs11 cs13) (18 + (cs11 : List Int32).length + 10 + (cs13 : List Int32).length + k120)))])) := c124.trans (by
        refine XS.aload X124.here hx rfl (hb hby at_284) rfl rfl ?_
        refine XS.iload X124.here hx rfl (hb hby at_286) rfl ?_
        exact Steps.refl _)
      obtain ⟨v126, T126, L126, X126, ⟨rfl, rfl, e126⟩, c126'⟩ := own_virt X124 hx hml hZ15 hown15 (hw _ (List.mem_of_getElem? (i := 252) rfl)) (hw _ (List.mem_of_getElem? (i := 253) rfl)) (hw _ (List.mem_of_getElem? (i := 255) rfl)) (hw _ (List.mem_of_getElem? (i := 254) rfl)) (hw _ (List.mem_of_getElem? (i := 255) rfl)) (by decide) (Q := fun v h' L => v = some (.int (own_at9 own_s k120)) ∧ L = [] ∧ h' = T15.heap) (kc := 0) (ks := 0) (h := T15.heap) (W := 1) (b := la_7) (argsL := [(.int (Int32.ofNat k120))]) (rest := [(.int (own_at9 (own_msg cs11 cs13) (18 + (cs11 : List Int32).length + 10 + (cs13 : List Int32).length + k120)))]) (StrChars.Road.chN (s := (s.setVm T15.vm)) (R := room_1) (W := 1) hZ15 (own_wch hw) (kI := 4) (hw _ (List.mem_of_getElem? (i := 2) rfl)) (cs := own_s) (((Ea7.keep K11).keep K13).keep K15) (((Va7.keep K11 nin0).keep K13 nin0).keep K15 nin0) (((Ca7.keep K11 nin0).keep K13 nin0).keep K15 nin0) (((Kl9.keep K11 nin0).keep K13 nin0).keep K15 nin0) (StrChars.Road.codOf (n := (own_s : List Int32).length) rfl (fun c hc => (own_sC c hc).rng.2)) (fun c hc => (own_sC c hc).rng2) (SC.ext ((((((O0.ext E1).ext E4).ext E7).keep K11 all0).keep K13 all0).keep K15 all0).2) hz (SF.ext ((((((O0.ext E1).ext E4).ext E7).keep K11 all0).keep K13 all0).keep K15 all0).2) hfm (by decide) (i := k120) (by first | omega | (rw [own_msgL]; omega) | (rw [own_pN]; omega) | (rw [own_mN]; omega) | (rw [own_sN]; omega)) rfl (by decide) (by decide)) (((Ea7.keep K11).keep K13).keep K15) c125 (lenOf pd_23 rfl) rfl (hb hby at_288) e124
      have N126 := Fr.app N124 (Fr.nil _)
      have c126 : Steps p.tables e below S0 (T126.setTop (mkF m 291 #[.val (.int i0), .val (.int i1), .val (.int i2), .val (.ref la_1), .val (.ref la_4), .val (.ref la_7), .val (.ref x11), .val (.ref x13), .val (.ref a15), .val (.ref x15), .val (.int (Int32.ofNat (cs11 : List Int32).length)), .val (.int (Int32.ofNat (cs13 : List Int32).length)), .val (.int (18 : Int32)), .val (.int (10 : Int32)), .val (.int (61 : Int32)), .val (.int (i2 &&& (2147483647 : Int32))), .val (.int (Int32.ofNat k40)), .val (.int (Int32.ofNat k93)), .val (.int (Int32.ofNat k120))] [(.int (own_at9 own_s k120)), (.int (own_at9 (own_msg cs11 cs13) (18 + (cs11 : List Int32).length + 10 + (cs13 : List Int32).length + k120)))])) := c126'
      have c127 : Steps p.tables e below S0 (T126.setTop (mkF m 299 #[.val (.int i0), .val (.int i1), .val (.int i2), .val (.ref la_1), .val (.ref la_4), .val (.ref la_7), .val (.ref x11), .val (.ref x13), .val (.ref a15), .val (.ref x15), .val (.int (Int32.ofNat (cs11 : List Int32).length)), .val (.int (Int32.ofNat (cs13 : List Int32).length)), .val (.int (18 : Int32)), .val (.int (10 : Int32)), .val (.int (61 : Int32)), .val (.int (i2 &&& (2147483647 : Int32))), .val (.int (Int32.ofNat k40)), .val (.int (Int32.ofNat k93)), .val (.int (Int32.ofNat k120))] [(.int (1 : Int32))])) := c126.trans (by
        refine XS.icmpNo X126.here hx rfl (hb hby at_291) rfl (teq (own_m5 _ _ _)).2 ?_
        refine XS.iconst X126.here hx rfl (hb hby at_294) ?_
        refine XS.goto X126.here hx rfl (pc0 := 295) (pc' := 299) rfl (hb hby at_295) (by decide) (by decide) ?_
        exact Steps.refl _)
      refine ⟨T126, T15.vm, _, (some (.int (1 : Int32))), _, _, _, X126, by decide, by decide, (fun q => by cases q), N126, hS15, by rw [e126]; exact (Nat.le_refl _), hZ15, by rw [e126]; exact CR15, ?_, fun fs hr => ?_⟩
      · skip
        exact rfl
      · exact c127.trans (retN X126 hx (t := .boolean) hret (by simp) (hb hby at_299) hr)
set_option maxRecDepth 65536 in
set_option maxHeartbeats 40000000 in
theorem comes_1 {Post : Tables → Env → Array Value → State → Outcome → State → Prop} (hpost : ∀ tb e args s v u, (limb_1_1.after args s (.returned v) u = true ∧ limb_1_2.after args s (.returned v) u = true ∧ True) → ReturnedEndW s (.returned v) u (Jvm.fieldLocs frame_1_writes args s ++ Jvm.arrayLocs frame_1_arrays args s ++ Jvm.staticLocs frame_1_statics s) 56 13312 → Post tb e args s (.returned v) u) :
    ArmFor flags0 classFile x code maxLocals ret World_1 tables_1 room_1 Calls_1 rest_1 Pre_1 Post := by
  intro l hfl _ _ p e ha hc hk s m args below hf hA hF happ hP
  obtain ⟨hcalls, hrest, hpre⟩ := hP
  obtain ⟨-, -, -, hnamed, -, -, -, hat⟩ := (Spec.applies_iff hf).mp happ
  obtain ⟨hg, hn⟩ := and_e (Cond.before_iff.mp (show (Jvm.Cond.and given_1 narrow_1).before args s = true from hpre))
  obtain ⟨g10, hg⟩ := and_e hg
  obtain ⟨ga0, hg⟩ := and_e hg
  obtain ⟨ga1, hg⟩ := and_e hg
  have ga2 := hg
  obtain ⟨w0, w1, w2, rfl⟩ : ∃ w0 w1 w2 : Value, args = #[w0, w1, w2] := by
    have hs : args.size = 3 := by simpa [Cond.value, given_1] using g10
    obtain ⟨L⟩ := args
    match L, hs with
    | [w0, w1, w2], _ => exact ⟨w0, w1, w2, rfl⟩
  have hw := fun d (hd : d ∈ tables_1) => atoms_spec (ws := Jvm.Cond.code x code maxLocals ret :: tables_1) hat d (List.mem_cons_of_mem _ hd)
  have hfit : Fit s := fun {y c} hc i hi => by
    obtain ⟨ha, rfl⟩ := Array.getElem?_eq_some_iff.mp hc
    have q := List.all_eq_true.mp ((Array.all_eq_true_iff_forall_mem.mp hF) _ (Array.getElem_mem ha)) i (List.mem_range.mpr hi)
    simpa [Array.getElem?_eq_getElem hi] using q
  obtain ⟨i0, ei0⟩ := is_v ga0
  obtain rfl : w0 = (.int i0) := Option.some.inj ei0
  obtain ⟨i1, ei1⟩ := is_v ga1
  obtain rfl : w1 = (.int i1) := Option.some.inj ei1
  obtain ⟨i2, ei2⟩ := is_v ga2
  obtain rfl : w2 = (.int i2) := Option.some.inj ei2
  obtain ⟨hsets, hown0⟩ := atoms_of _ (rest_1_c_eq ▸ (show rest_1_c.before _ s = true from hrest))
  obtain ⟨z, ez⟩ := is_v (Cond.before_iff.mp (hsets _ (List.mem_of_getElem? (i := 1) rfl)))
  have hz : ¬ z = 0 := by
    have q := not_v (Cond.before_iff.mp (hsets _ (List.mem_of_getElem? (i := 2) rfl)))
    intro hz
    subst hz
    rw [eq_i ez (Term.int_eval (0)) rfl] at q
    cases q
  have SC := Sta.start ez (Or.inl (hsets _ (List.mem_of_getElem? (i := 0) rfl)))
  obtain ⟨fm, efm, hfm⟩ := isR_v (Cond.before_iff.mp (hsets _ (List.mem_of_getElem? (i := 8) rfl)))
  have SF := Sta.start efm (Or.inl (hsets _ (List.mem_of_getElem? (i := 7) rfl)))
  obtain ⟨uS, euS, quS⟩ := static_fit hfit (hw _ (List.mem_of_getElem? (i := 230) rfl)) (ty := .array (.object "java/lang/StackTraceElement")) (by decide)
  have hus : uS.isRef = true := by cases uS <;> first | rfl | cases quS
  have US := Sta.start euS (Or.inr ⟨(hw _ (List.mem_of_getElem? (i := 199) rfl)), (hw _ (List.mem_of_getElem? (i := 230) rfl))⟩)
  obtain ⟨uP, euP, quP⟩ := static_fit hfit (hw _ (List.mem_of_getElem? (i := 231) rfl)) (ty := .object "java/util/List") (by decide)
  have hup : uP.isRef = true := by cases uP <;> first | rfl | cases quP
  have SP := Sta.start euP (Or.inr ⟨(hw _ (List.mem_of_getElem? (i := 199) rfl)), (hw _ (List.mem_of_getElem? (i := 231) rfl))⟩)
  have hEL : EW s #[.int i0, .int i1, .int i2] EL := (EW.cons (hw _ (List.mem_of_getElem? (i := 65) rfl)) (by decide) (EW.cons (hw _ (List.mem_of_getElem? (i := 136) rfl)) (by decide) (EW.cons (hw _ (List.mem_of_getElem? (i := 137) rfl)) (by decide) (EW.cons (hw _ (List.mem_of_getElem? (i := 0) rfl)) (by decide) (EW.cons (hw _ (List.mem_of_getElem? (i := 8) rfl)) (by decide) (EW.cons (hw _ (List.mem_of_getElem? (i := 9) rfl)) (by decide) (EW.cons (hw _ (List.mem_of_getElem? (i := 26) rfl)) (by decide) EW.nil)))))))
  have hCH : CHv s EL s.vm s.heap := CHv.start hEL (fun q hq => hcalls.2.2.1 q hq) (hsets _ (List.mem_of_getElem? (i := 2) rfl)) (hw _ (List.mem_of_getElem? (i := 3) rfl)) (hw _ (List.mem_of_getElem? (i := 2) rfl))
  have M := rm0 l s _ hw hEL i0 i1 i2 z fm uS uP s.heap (Old.start s) SC hz SF hfm (own_hl hfl) US hus SP hup
  obtain ⟨n, o, h1, h2, h3, _, L, rfl, ⟨N, rfl⟩, -, hq⟩ := own_kmet (ws := tables_1) (plainFor_of_name (by first | (simp [plainName, overriddenIn]; done) | decide +kernel)) hEL M p e ha hc hk s m _ below hf ((Spec.applies_iff_loose hf).mp happ).1 ⟨rfl, State.Warmed39.refl s, rfl, hCH, fun _ q => nomatch q⟩ ⟨own_tk hcalls.2.1, own_fk hcalls.1 hf⟩
  refine ⟨n, _, h1, h2, h3, hpost _ _ _ _ _ _ ⟨Cond.after_iff.mpr rfl, Cond.after_iff.mpr (eq_i res_at (Term.int_eval (1)) rfl), trivial⟩ ⟨hq.1, hq.2.1, hq.2.2.1, (hq.2.2.2.sift fun y hy => Or.inr (N y hy)).mono (by decide) (by decide)⟩⟩
theorem main_1_1 : Claimed_1_1 := comes_1 fun _ _ _ _ _ _ h hF => ⟨h.1, hF⟩
theorem main_1_2 : Claimed_1_2 := comes_1 fun _ _ _ _ _ _ h hF => ⟨h.2.1, hF⟩
end Jvm.Pilot.@@N@@
namespace Jvm.Pilot.@@N@@
open Jvm Jvm.ClassFile Sem Op Lib Jvm.Free Jvm.Stand Jvm.Pilot.@@N@@.Jvm.D
/-! MADE BY PROGRAM (witnessworld.py) out of the Statement's table words and the real class files: 43 classes; the members and pool entries that the words name. The judged class is class 1, her method 2. -/
namespace start1
open Jvm.ClassFile
def u (s : String) : CpInfo := .utf8 (stringToUtf16 s)
/-- a pool by its gaps: so many unusable entries, then the entry; so many at the end -/
def gap : Nat → List CpInfo → List CpInfo
  | 0, r => r
  | n + 1, r => .unusable :: gap n r
def poolList (es : List (Nat × CpInfo)) (last : Nat) : List CpInfo := es.foldr (fun e r => gap e.1 (e.2 :: r)) (gap last [])
def pool (es : List (Nat × CpInfo)) (last : Nat) : Array CpInfo := ⟨poolList es last⟩
def fileOf (pool : Array CpInfo) (this : Nat) (attrs : Array Attribute := #[]) (ms : Array MethodInfo := #[]) (fl : Nat := 33) (sup : Nat := 0) (ifs : Array Nat := #[]) (fds : Array FieldInfo := #[]) : ClassFile where
  minorVersion := 0
  majorVersion := 65
  constantPool := pool
  accessFlags := fl
  thisClass := this
  superClass := sup
  interfaces := ifs
  fields := fds
  methods := ms
  attributes := attrs
def plain (name : String) (sup : Option ClassId) : Class where
  name := name
  kind := .ordinary
  loader := none
  accessFlags := 33
  super := sup
  interfaces := #[]
  cf := none
  fields := #[]
  methods := #[]
  instanceTypes := #[]
  staticTypes := #[]
  resolved := #[]
  callSites := []
  init := .initialized
  statics := none
  mirror := none

def pool0 : Array CpInfo := pool [(5, u "<init>"), (0, u "()V"), (1, .class_ 10), (1, u "java/lang/Object"), (85, u "clone"), (0, u "()Ljava/lang/Object;")] 26

def k0c0 : Code := { maxStack := 0, maxLocals := 1, code := object_method_1_code, exceptionTable := #[], attributes := #[] }
def k0m0 : Method := { name := "<init>", desc := "()V", sig := { parameters := [], returnType := none }, accessFlags := 1, code := some k0c0 }
def k0m1 : Method := { name := "clone", desc := "()Ljava/lang/Object;", sig := { parameters := [], returnType := some (.object "java/lang/Object") }, accessFlags := 260, code := none }
/-- java/lang/Object -/
def k0 : Class := { plain "java/lang/Object" none with
  accessFlags := 33
  interfaces := #[]
  cf := some (fileOf pool0 8 #[] #[{ accessFlags := 1, nameIndex := 5, descriptorIndex := 6, attributes := #[] }, { accessFlags := 260, nameIndex := 96, descriptorIndex := 97, attributes := #[] }] 33 0 #[] #[])
  fields := #[]
  methods := #[k0m0, k0m1]
  instanceTypes := #[]
  staticTypes := #[]
  resolved := Array.replicate 124 none
  statics := none }

def pool1 : Array CpInfo := pool [(2, .class_ 4), (1, u "java/lang/Object"), (0, u "<init>"), (0, u "()V"), (0, .class_ 8), (0, u "java/lang/String"), (0, .methodref 7 10), (0, .nameAndType 5 11), (0, u "([C)V"), (0, .string 13), (0, u "the loader of key "), (0, .string 15), (0, u " of cache "), (0, .string 17), (0, u " asked the cache for that same key, and would wait for itself"), (0, .methodref 19 20), (0, .class_ 21), (0, .nameAndType 22 23), (0, u "com/example/breakwater/breakwater/InFlightLoadsAskedForOwnKeyPinLaw"), (0, u "str"), (0, u "(I)Ljava/lang/String;"), (0, .methodref 25 26), (0, .class_ 27), (0, .nameAndType 28 29), (0, u "com/example/breakwater/breakwater/InFlightLoads"), (0, u "askedForOwnKey"), (0, u "(Ljava/lang/String;Ljava/lang/String;)Ljava/lang/IllegalStateException;"), (0, .methodref 31 32), (0, .class_ 33), (0, .nameAndType 34 35), (0, u "java/lang/IllegalStateException"), (0, u "getCause"), (0, u "()Ljava/lang/Throwable;"), (0, .methodref 31 37), (0, .nameAndType 38 39), (0, u "getMessage"), (0, u "()Ljava/lang/String;"), (0, .methodref 7 41), (0, .nameAndType 42 43), (0, u "length"), (0, u "()I"), (0, .integer 2147483647), (0, .methodref 7 46), (0, .nameAndType 47 48), (0, u "charAt"), (0, u "(I)C"), (3, u "law"), (0, u "(III)Z")] 2

def k1m0 : Method := { name := "<init>", desc := "()V", sig := { parameters := [], returnType := none }, accessFlags := 1, code := none }
def k1c1 : Code := { maxStack := 6, maxLocals := 5, code := method_2_code, exceptionTable := #[], attributes := #[] }
def k1m1 : Method := { name := "str", desc := "(I)Ljava/lang/String;", sig := { parameters := [.int], returnType := some (.object "java/lang/String") }, accessFlags := 10, code := some k1c1 }
def k1c2 : Code := { maxStack := 3, maxLocals := 19, code := code, exceptionTable := #[], attributes := #[] }
def k1m2 : Method := { name := "law", desc := "(III)Z", sig := { parameters := [.int, .int, .int], returnType := some .boolean }, accessFlags := 9, code := some k1c2 }
/-- com/example/breakwater/breakwater/InFlightLoadsAskedForOwnKeyPinLaw -/
def k1 : Class := { plain "com/example/breakwater/breakwater/InFlightLoadsAskedForOwnKeyPinLaw" (some 0) with
  accessFlags := 49
  interfaces := #[]
  cf := some (fileOf pool1 19 #[] #[{ accessFlags := 1, nameIndex := 5, descriptorIndex := 6, attributes := #[] }, { accessFlags := 10, nameIndex := 22, descriptorIndex := 23, attributes := #[] }, { accessFlags := 9, nameIndex := 52, descriptorIndex := 53, attributes := #[] }] 49 2 #[] #[])
  fields := #[]
  methods := #[k1m0, k1m1, k1m2]
  instanceTypes := #[]
  staticTypes := #[]
  resolved := Array.replicate 56 none
  statics := none }

def pool2 : Array CpInfo := pool [(1, .class_ 2), (0, u "java/io/Serializable"), (0, .class_ 4), (0, u "java/lang/Object")] 2

/-- java/io/Serializable -/
def k2 : Class := { plain "java/io/Serializable" (some 0) with
  accessFlags := 1537
  interfaces := #[]
  cf := some (fileOf pool2 1 #[] #[] 1537 3 #[] #[])
  fields := #[]
  methods := #[]
  instanceTypes := #[]
  staticTypes := #[]
  resolved := Array.replicate 7 none
  statics := none }

def pool3 : Array CpInfo := pool [(1, .class_ 2), (0, u "java/lang/Comparable"), (0, .class_ 4), (0, u "java/lang/Object")] 7

/-- java/lang/Comparable -/
def k3 : Class := { plain "java/lang/Comparable" (some 0) with
  accessFlags := 1537
  interfaces := #[]
  cf := some (fileOf pool3 1 #[] #[] 1537 3 #[] #[])
  fields := #[]
  methods := #[]
  instanceTypes := #[]
  staticTypes := #[]
  resolved := Array.replicate 12 none
  statics := none }

def pool4 : Array CpInfo := pool [(2, .class_ 4), (1, u "java/lang/CharSequence"), (42, .class_ 48), (0, u "java/lang/CharSequence$1CodePointIterator"), (10, .class_ 60), (0, u "java/lang/CharSequence$1CharIterator"), (5, .class_ 67), (0, u "java/lang/Object")] 63

/-- java/lang/CharSequence -/
def k4 : Class := { plain "java/lang/CharSequence" (some 0) with
  accessFlags := 1537
  interfaces := #[]
  cf := some (fileOf pool4 2 #[.nestMembers #[47, 59]] #[] 1537 66 #[] #[])
  fields := #[]
  methods := #[]
  instanceTypes := #[]
  staticTypes := #[]
  resolved := Array.replicate 131 none
  statics := none }

def pool5 : Array CpInfo := pool [(1, .class_ 2), (0, u "java/lang/constant/Constable"), (0, .class_ 4), (0, u "java/lang/Object")] 6

/-- java/lang/constant/Constable -/
def k5 : Class := { plain "java/lang/constant/Constable" (some 0) with
  accessFlags := 1537
  interfaces := #[]
  cf := some (fileOf pool5 1 #[] #[] 1537 3 #[] #[])
  fields := #[]
  methods := #[]
  instanceTypes := #[]
  staticTypes := #[]
  resolved := Array.replicate 11 none
  statics := none }

def pool6 : Array CpInfo := pool [(1, .class_ 2), (0, u "java/lang/constant/ConstantDesc"), (0, .class_ 4), (0, u "java/lang/Object")] 32

/-- java/lang/constant/ConstantDesc -/
def k6 : Class := { plain "java/lang/constant/ConstantDesc" (some 0) with
  accessFlags := 1537
  interfaces := #[]
  cf := some (fileOf pool6 1 #[] #[] 1537 3 #[] #[])
  fields := #[]
  methods := #[]
  instanceTypes := #[]
  staticTypes := #[]
  resolved := Array.replicate 37 none
  statics := none }

def pool7 : Array CpInfo := pool [(1, .methodref 2 3), (0, .class_ 4), (0, .nameAndType 5 6), (0, u "java/lang/Object"), (0, u "<init>"), (0, u "()V"), (0, .string 8), (0, u ""), (0, .fieldref 10 11), (0, .class_ 12), (0, .nameAndType 13 14), (0, u "java/lang/String"), (0, u "value"), (0, u "[B"), (0, .fieldref 10 16), (0, .nameAndType 17 18), (0, u "coder"), (0, u "B"), (2, u "hash"), (0, u "I"), (2, u "hashIsZero"), (0, u "Z"), (0, .methodref 10 28), (0, .nameAndType 5 29), (0, u "([CIILjava/lang/Void;)V"), (8, .fieldref 10 39), (0, .nameAndType 40 26), (0, u "COMPACT_STRINGS"), (1, .class_ 44), (1, u "java/lang/StringUTF16"), (0, u "compress"), (1, .methodref 42 48), (0, .nameAndType 49 50), (0, u "coderFromArrayLen"), (0, u "([BI)B"), (3, .methodref 55 56), (0, .class_ 57), (0, .nameAndType 58 59), (0, u "java/util/Arrays"), (0, u "copyOfRange"), (0, u "([BII)[B"), (47, .class_ 109), (1, u "java/lang/StringLatin1"), (32, u "()Z"), (34, .methodref 42 178), (0, .nameAndType 45 179), (0, u "([CII)[B"), (13, .class_ 195), (1, u "java/lang/System"), (16, .methodref 193 213), (0, .nameAndType 214 215), (0, u "arraycopy"), (0, u "(Ljava/lang/Object;ILjava/lang/Object;II)V"), (118, u "()I"), (0, .methodref 10 336), (0, .nameAndType 17 337), (0, u "()B"), (2, u "()[B"), (22, u "([BI)C"), (27, u "(II)V"), (35, u "(I)C"), (61, .methodref 10 490), (0, .nameAndType 5 491), (0, u "(Ljava/lang/AbstractStringBuilder;Ljava/lang/Void;)V"), (0, .methodref 10 493), (0, .nameAndType 494 142), (0, u "isLatin1"), (0, .methodref 107 496), (0, .nameAndType 497 363), (0, u "charAt"), (3, u "checkIndex"), (4, .nameAndType 507 334), (0, u "length"), (24, u "getBytes"), (16, .methodref 550 506), (0, .class_ 551), (0, u "java/lang/AbstractStringBuilder"), (0, .methodref 550 553), (0, .nameAndType 554 340), (0, u "getValue"), (20, .class_ 576), (0, u "java/lang/CharSequence"), (22, u "CASE_INSENSITIVE_ORDER"), (0, u "Ljava/util/Comparator;"), (220, u "([BIB)V"), (188, u "([C)V"), (36, .methodref 550 493), (5, .fieldref 1054 1055), (0, .class_ 1056), (0, .nameAndType 1057 1058), (0, u "jdk/internal/util/Preconditions"), (0, u "SIOOBE_FORMATTER"), (0, u "Ljava/util/function/BiFunction;"), (0, .methodref 1054 1060), (0, .nameAndType 501 1061), (0, u "(IILjava/util/function/BiFunction;)I"), (39, u "serialPersistentFields"), (0, u "[Ljava/io/ObjectStreamField;"), (0, .class_ 1104), (0, u "java/lang/String$CaseInsensitiveComparator"), (1, .class_ 1107), (0, u "java/io/Serializable"), (0, .class_ 1109), (0, u "java/lang/Comparable"), (0, .class_ 1111), (0, u "java/lang/constant/Constable"), (0, .class_ 1113), (0, u "java/lang/constant/ConstantDesc"), (2, u "serialVersionUID"), (0, u "J"), (3, u "REPL"), (0, u "C"), (2, u "LATIN1"), (1, u "UTF16"), (105, u "(Ljava/lang/StringBuilder;)V")] 217

def k7m0 : Method := { name := "<init>", desc := "()V", sig := { parameters := [], returnType := none }, accessFlags := 1, code := none }
def k7c1 : Code := { maxStack := 5, maxLocals := 2, code := jdk_42_method_3_code, exceptionTable := #[], attributes := #[] }
def k7m1 : Method := { name := "<init>", desc := "([C)V", sig := { parameters := [(.array .char)], returnType := none }, accessFlags := 1, code := some k7c1 }
def k7c2 : Code := { maxStack := 3, maxLocals := 2, code := jdk_42_method_53_code, exceptionTable := #[], attributes := #[] }
def k7m2 : Method := { name := "<init>", desc := "(Ljava/lang/StringBuilder;)V", sig := { parameters := [(.object "java/lang/StringBuilder")], returnType := none }, accessFlags := 1, code := some k7c2 }
def k7c3 : Code := { maxStack := 2, maxLocals := 1, code := jdk_42_method_54_code, exceptionTable := #[], attributes := #[] }
def k7m3 : Method := { name := "length", desc := "()I", sig := { parameters := [], returnType := some .int }, accessFlags := 1, code := some k7c3 }
def k7c4 : Code := { maxStack := 2, maxLocals := 2, code := jdk_42_method_56_code, exceptionTable := #[], attributes := #[] }
def k7m4 : Method := { name := "charAt", desc := "(I)C", sig := { parameters := [.int], returnType := some .char }, accessFlags := 1, code := some k7c4 }
def k7c5 : Code := { maxStack := 5, maxLocals := 4, code := jdk_42_method_147_code, exceptionTable := #[], attributes := #[] }
def k7m5 : Method := { name := "getBytes", desc := "([BIB)V", sig := { parameters := [(.array .byte), .int, .byte], returnType := none }, accessFlags := 0, code := some k7c5 }
def k7c6 : Code := { maxStack := 4, maxLocals := 6, code := jdk_42_method_149_code, exceptionTable := #[], attributes := #[] }
def k7m6 : Method := { name := "<init>", desc := "([CIILjava/lang/Void;)V", sig := { parameters := [(.array .char), .int, .int, (.object "java/lang/Void")], returnType := none }, accessFlags := 2, code := some k7c6 }
def k7c7 : Code := { maxStack := 5, maxLocals := 5, code := jdk_42_method_150_code, exceptionTable := #[], attributes := #[] }
def k7m7 : Method := { name := "<init>", desc := "(Ljava/lang/AbstractStringBuilder;Ljava/lang/Void;)V", sig := { parameters := [(.object "java/lang/AbstractStringBuilder"), (.object "java/lang/Void")], returnType := none }, accessFlags := 0, code := some k7c7 }
def k7c8 : Code := { maxStack := 1, maxLocals := 1, code := jdk_42_method_152_code, exceptionTable := #[], attributes := #[] }
def k7m8 : Method := { name := "coder", desc := "()B", sig := { parameters := [], returnType := some .byte }, accessFlags := 0, code := some k7c8 }
def k7c9 : Code := { maxStack := 1, maxLocals := 1, code := jdk_42_method_154_code, exceptionTable := #[], attributes := #[] }
def k7m9 : Method := { name := "isLatin1", desc := "()Z", sig := { parameters := [], returnType := some .boolean }, accessFlags := 0, code := some k7c9 }
def k7c10 : Code := { maxStack := 3, maxLocals := 2, code := jdk_42_method_155_code, exceptionTable := #[], attributes := #[] }
def k7m10 : Method := { name := "checkIndex", desc := "(II)V", sig := { parameters := [.int, .int], returnType := none }, accessFlags := 8, code := some k7c10 }
/-- java/lang/String -/
def k7 : Class := { plain "java/lang/String" (some 0) with
  accessFlags := 49
  interfaces := #[2, 3, 4, 5, 6]
  cf := some (fileOf pool7 10 #[.nestMembers #[1103]] #[{ accessFlags := 1, nameIndex := 5, descriptorIndex := 6, attributes := #[] }, { accessFlags := 1, nameIndex := 5, descriptorIndex := 1010, attributes := #[] }, { accessFlags := 1, nameIndex := 5, descriptorIndex := 1233, attributes := #[] }, { accessFlags := 1, nameIndex := 507, descriptorIndex := 334, attributes := #[] }, { accessFlags := 1, nameIndex := 497, descriptorIndex := 427, attributes := #[] }, { accessFlags := 0, nameIndex := 532, descriptorIndex := 821, attributes := #[] }, { accessFlags := 2, nameIndex := 5, descriptorIndex := 29, attributes := #[] }, { accessFlags := 0, nameIndex := 5, descriptorIndex := 491, attributes := #[] }, { accessFlags := 0, nameIndex := 17, descriptorIndex := 337, attributes := #[] }, { accessFlags := 0, nameIndex := 494, descriptorIndex := 142, attributes := #[] }, { accessFlags := 8, nameIndex := 501, descriptorIndex := 391, attributes := #[] }] 49 2 #[1106, 1108, 575, 1110, 1112] #[{ accessFlags := 18, nameIndex := 13, descriptorIndex := 14, attributes := #[] }, { accessFlags := 18, nameIndex := 17, descriptorIndex := 18, attributes := #[] }, { accessFlags := 2, nameIndex := 21, descriptorIndex := 22, attributes := #[] }, { accessFlags := 2, nameIndex := 25, descriptorIndex := 26, attributes := #[] }, { accessFlags := 26, nameIndex := 1116, descriptorIndex := 1117, attributes := #[] }, { accessFlags := 24, nameIndex := 40, descriptorIndex := 26, attributes := #[] }, { accessFlags := 26, nameIndex := 1101, descriptorIndex := 1102, attributes := #[] }, { accessFlags := 26, nameIndex := 1121, descriptorIndex := 1122, attributes := #[] }, { accessFlags := 25, nameIndex := 599, descriptorIndex := 600, attributes := #[] }, { accessFlags := 24, nameIndex := 1125, descriptorIndex := 18, attributes := #[] }, { accessFlags := 24, nameIndex := 1127, descriptorIndex := 18, attributes := #[] }])
  fields := #[{ name := "value", type := (.array .byte), accessFlags := 18, slot := 0, constantValue := 0 }, { name := "coder", type := .byte, accessFlags := 18, slot := 1, constantValue := 0 }, { name := "hash", type := .int, accessFlags := 2, slot := 2, constantValue := 0 }, { name := "hashIsZero", type := .boolean, accessFlags := 2, slot := 3, constantValue := 0 }, { name := "serialVersionUID", type := .long, accessFlags := 26, slot := 0, constantValue := 0 }, { name := "COMPACT_STRINGS", type := .boolean, accessFlags := 24, slot := 1, constantValue := 0 }, { name := "serialPersistentFields", type := (.array (.object "java/io/ObjectStreamField")), accessFlags := 26, slot := 2, constantValue := 0 }, { name := "REPL", type := .char, accessFlags := 26, slot := 3, constantValue := 0 }, { name := "CASE_INSENSITIVE_ORDER", type := (.object "java/util/Comparator"), accessFlags := 25, slot := 4, constantValue := 0 }, { name := "LATIN1", type := .byte, accessFlags := 24, slot := 5, constantValue := 0 }, { name := "UTF16", type := .byte, accessFlags := 24, slot := 6, constantValue := 0 }]
  methods := #[k7m0, k7m1, k7m2, k7m3, k7m4, k7m5, k7m6, k7m7, k7m8, k7m9, k7m10]
  instanceTypes := #[(.array .byte), .byte, .int, .boolean]
  staticTypes := #[.long, .boolean, (.array (.object "java/io/ObjectStreamField")), .char, (.object "java/util/Comparator"), .byte, .byte]
  resolved := Array.replicate 1451 none
  statics := some 0 }

def pool8 : Array CpInfo := pool [(6, .class_ 8), (1, u "java/lang/Object"), (0, u "<init>"), (0, u "()V"), (1, .class_ 14), (1, u "java/lang/StringUTF16"), (31, u "$assertionsDisabled"), (0, u "Z"), (13, u "HI_BYTE_SHIFT"), (0, u "I"), (2, u "LO_BYTE_SHIFT"), (49, .methodref 12 116), (0, .nameAndType 117 118), (0, u "compress"), (0, u "([CI[BII)I"), (3, u "([CII)[B"), (138, u "coderFromArrayLen"), (0, u "([BI)B"), (106, .class_ 371), (1, u "java/lang/StringUTF16$LinesSpliterator"), (58, u "MAX_LENGTH"), (196, .class_ 628), (0, u "java/lang/StringUTF16$CodePointsSpliterator"), (0, .class_ 630), (0, u "java/lang/StringUTF16$CharsSpliterator")] 4

def k8m0 : Method := { name := "<init>", desc := "()V", sig := { parameters := [], returnType := none }, accessFlags := 0, code := none }
def k8c1 : Code := { maxStack := 2, maxLocals := 2, code := jdk_52_method_15_code, exceptionTable := #[], attributes := #[] }
def k8m1 : Method := { name := "coderFromArrayLen", desc := "([BI)B", sig := { parameters := [(.array .byte), .int], returnType := some .byte }, accessFlags := 8, code := some k8c1 }
def k8c2 : Code := { maxStack := 5, maxLocals := 6, code := jdk_52_method_16_code, exceptionTable := #[], attributes := #[] }
def k8m2 : Method := { name := "compress", desc := "([CII)[B", sig := { parameters := [(.array .char), .int, .int], returnType := some (.array .byte) }, accessFlags := 9, code := some k8c2 }
def k8c3 : Code := { maxStack := 3, maxLocals := 7, code := jdk_52_method_21_code, exceptionTable := #[], attributes := #[] }
def k8m3 : Method := { name := "compress", desc := "([CI[BII)I", sig := { parameters := [(.array .char), .int, (.array .byte), .int, .int], returnType := some .int }, accessFlags := 9, code := some k8c3 }
/-- java/lang/StringUTF16 -/
def k8 : Class := { plain "java/lang/StringUTF16" (some 0) with
  accessFlags := 48
  interfaces := #[]
  cf := some (fileOf pool8 12 #[.nestMembers #[627, 629, 369]] #[{ accessFlags := 0, nameIndex := 9, descriptorIndex := 10, attributes := #[] }, { accessFlags := 8, nameIndex := 261, descriptorIndex := 262, attributes := #[] }, { accessFlags := 9, nameIndex := 117, descriptorIndex := 122, attributes := #[] }, { accessFlags := 9, nameIndex := 117, descriptorIndex := 118, attributes := #[] }] 48 6 #[] #[{ accessFlags := 26, nameIndex := 61, descriptorIndex := 62, attributes := #[] }, { accessFlags := 26, nameIndex := 65, descriptorIndex := 62, attributes := #[] }, { accessFlags := 24, nameIndex := 430, descriptorIndex := 62, attributes := #[] }, { accessFlags := 4120, nameIndex := 46, descriptorIndex := 47, attributes := #[] }])
  fields := #[{ name := "HI_BYTE_SHIFT", type := .int, accessFlags := 26, slot := 0, constantValue := 0 }, { name := "LO_BYTE_SHIFT", type := .int, accessFlags := 26, slot := 1, constantValue := 0 }, { name := "MAX_LENGTH", type := .int, accessFlags := 24, slot := 2, constantValue := 0 }, { name := "$assertionsDisabled", type := .boolean, accessFlags := 4120, slot := 3, constantValue := 0 }]
  methods := #[k8m0, k8m1, k8m2, k8m3]
  instanceTypes := #[]
  staticTypes := #[.int, .int, .int, .boolean]
  resolved := Array.replicate 635 none
  statics := none }

def pool9 : Array CpInfo := pool [(4, .class_ 6), (0, .nameAndType 7 8), (0, u "java/lang/Object"), (0, u "<init>"), (0, u "()V"), (4, .class_ 15), (1, u "com/example/breakwater/breakwater/InFlightLoads"), (0, u "flights"), (0, u "Ljava/util/concurrent/ConcurrentMap;"), (2, u "cacheName"), (0, u "Ljava/lang/String;"), (2, u "waitTimeout"), (0, u "Ljava/time/Duration;"), (18, u "waitNanos"), (0, u "J"), (2, u "asyncThreads"), (0, u "Ljava/util/concurrent/Executor;"), (5, .class_ 56), (0, u "com/example/breakwater/breakwater/InFlightLoads$Flight"), (11, .class_ 69), (0, u "com/example/breakwater/breakwater/InFlightLoads$Replaced"), (76, u "askedForOwnKey"), (0, u "(Ljava/lang/String;Ljava/lang/String;)Ljava/lang/IllegalStateException;"), (33, u "(Ljava/lang/String;)V"), (83, u "()Ljava/lang/String;"), (8, .class_ 275), (0, u "java/lang/IllegalStateException"), (0, .class_ 277), (0, u "java/lang/StringBuilder"), (0, .methodref 276 5), (0, .string 280), (0, u "the loader of key "), (0, .methodref 276 282), (0, .nameAndType 283 284), (0, u "append"), (0, u "(Ljava/lang/String;)Ljava/lang/StringBuilder;"), (0, .string 286), (0, u " of cache "), (0, .string 288), (0, u " asked the cache for that same key, and would wait for itself"), (0, .methodref 276 290), (0, .nameAndType 291 265), (0, u "toString"), (0, .methodref 274 293), (0, .nameAndType 7 181), (40, u "LONGEST_WAIT"), (41, .class_ 377), (0, u "com/example/breakwater/breakwater/InFlightLoads$Stage")] 47

def k9c0 : Code := { maxStack := 4, maxLocals := 2, code := prog_2_method_18_code, exceptionTable := #[], attributes := #[] }
def k9m0 : Method := { name := "askedForOwnKey", desc := "(Ljava/lang/String;Ljava/lang/String;)Ljava/lang/IllegalStateException;", sig := { parameters := [(.object "java/lang/String"), (.object "java/lang/String")], returnType := some (.object "java/lang/IllegalStateException") }, accessFlags := 8, code := some k9c0 }
/-- com/example/breakwater/breakwater/InFlightLoads -/
def k9 : Class := { plain "com/example/breakwater/breakwater/InFlightLoads" (some 0) with
  accessFlags := 48
  interfaces := #[]
  cf := some (fileOf pool9 13 #[.nestMembers #[55, 68, 376]] #[{ accessFlags := 8, nameIndex := 146, descriptorIndex := 147, attributes := #[] }] 48 4 #[] #[{ accessFlags := 26, nameIndex := 334, descriptorIndex := 45, attributes := #[] }, { accessFlags := 18, nameIndex := 20, descriptorIndex := 21, attributes := #[] }, { accessFlags := 18, nameIndex := 24, descriptorIndex := 25, attributes := #[] }, { accessFlags := 18, nameIndex := 44, descriptorIndex := 45, attributes := #[] }, { accessFlags := 18, nameIndex := 48, descriptorIndex := 49, attributes := #[] }, { accessFlags := 18, nameIndex := 16, descriptorIndex := 17, attributes := #[] }])
  fields := #[{ name := "LONGEST_WAIT", type := .long, accessFlags := 26, slot := 0, constantValue := 0 }, { name := "cacheName", type := (.object "java/lang/String"), accessFlags := 18, slot := 0, constantValue := 0 }, { name := "waitTimeout", type := (.object "java/time/Duration"), accessFlags := 18, slot := 1, constantValue := 0 }, { name := "waitNanos", type := .long, accessFlags := 18, slot := 2, constantValue := 0 }, { name := "asyncThreads", type := (.object "java/util/concurrent/Executor"), accessFlags := 18, slot := 3, constantValue := 0 }, { name := "flights", type := (.object "java/util/concurrent/ConcurrentMap"), accessFlags := 18, slot := 4, constantValue := 0 }]
  methods := #[k9m0]
  instanceTypes := #[(.object "java/lang/String"), (.object "java/time/Duration"), .long, (.object "java/util/concurrent/Executor"), (.object "java/util/concurrent/ConcurrentMap")]
  staticTypes := #[.long]
  resolved := Array.replicate 425 none
  statics := none }

def pool10 : Array CpInfo := pool [(1, .methodref 2 3), (0, .class_ 4), (0, .nameAndType 5 6), (0, u "java/lang/Object"), (0, u "<init>"), (0, u "()V"), (0, .fieldref 8 9), (0, .class_ 10), (0, .nameAndType 11 12), (0, u "java/lang/Throwable"), (0, u "cause"), (0, u "Ljava/lang/Throwable;"), (0, .fieldref 8 14), (0, .nameAndType 15 16), (0, u "UNASSIGNED_STACK"), (0, u "[Ljava/lang/StackTraceElement;"), (0, .fieldref 8 18), (0, .nameAndType 19 16), (0, u "stackTrace"), (0, .fieldref 8 21), (0, .nameAndType 22 23), (0, u "SUPPRESSED_SENTINEL"), (0, u "Ljava/util/List;"), (0, .fieldref 8 25), (0, .nameAndType 26 23), (0, u "suppressedExceptions"), (0, .methodref 8 28), (0, .nameAndType 29 30), (0, u "fillInStackTrace"), (0, u "()Ljava/lang/Throwable;"), (0, .fieldref 8 32), (0, .nameAndType 33 34), (0, u "detailMessage"), (0, u "Ljava/lang/String;"), (3, u "()Ljava/lang/String;"), (2, u "getMessage"), (51, .class_ 94), (0, u "java/lang/Throwable$WrappedPrintStream"), (6, .class_ 103), (1, u "java/lang/Throwable$PrintStreamOrWriter"), (54, u "getCause"), (6, u "$assertionsDisabled"), (0, u "Z"), (26, .class_ 194), (0, u "java/lang/Throwable$WrappedPrintWriter"), (3, .fieldref 8 199), (0, .nameAndType 200 201), (0, u "backtrace"), (0, u "Ljava/lang/Object;"), (0, .methodref 8 203), (0, .nameAndType 29 204), (0, u "(I)Ljava/lang/Throwable;"), (6, u "depth"), (0, u "I"), (10, u "(Ljava/lang/String;)V"), (45, .class_ 271), (1, u "java/lang/Throwable$SentinelHolder"), (32, u "EMPTY_THROWABLE_ARRAY"), (0, u "[Ljava/lang/Throwable;"), (12, .class_ 319), (0, u "java/io/Serializable"), (0, u "serialVersionUID"), (0, u "J"), (5, u "NULL_CAUSE_MESSAGE"), (0, u "SELF_SUPPRESSION_MESSAGE"), (0, u "CAUSE_CAPTION"), (0, u "SUPPRESSED_CAPTION")] 73

def k10c0 : Code := { maxStack := 2, maxLocals := 1, code := jdk_78_method_1_code, exceptionTable := #[], attributes := #[] }
def k10m0 : Method := { name := "<init>", desc := "()V", sig := { parameters := [], returnType := none }, accessFlags := 1, code := some k10c0 }
def k10c1 : Code := { maxStack := 2, maxLocals := 2, code := jdk_78_method_2_code, exceptionTable := #[], attributes := #[] }
def k10m1 : Method := { name := "<init>", desc := "(Ljava/lang/String;)V", sig := { parameters := [(.object "java/lang/String")], returnType := none }, accessFlags := 1, code := some k10c1 }
def k10c2 : Code := { maxStack := 1, maxLocals := 1, code := jdk_78_method_6_code, exceptionTable := #[], attributes := #[] }
def k10m2 : Method := { name := "getMessage", desc := "()Ljava/lang/String;", sig := { parameters := [], returnType := some (.object "java/lang/String") }, accessFlags := 1, code := some k10c2 }
def k10c3 : Code := { maxStack := 2, maxLocals := 1, code := ⟨#[0x2a, 0xb4, 0x00, 0x07, 0x2a, 0xa6, 0x00, 0x07, 0x01, 0xa7, 0x00, 0x07, 0x2a, 0xb4, 0x00, 0x07, 0xb0]⟩, exceptionTable := #[], attributes := #[] }
def k10m3 : Method := { name := "getCause", desc := "()Ljava/lang/Throwable;", sig := { parameters := [], returnType := some (.object "java/lang/Throwable") }, accessFlags := 33, code := some k10c3 }
def k10c4 : Code := { maxStack := 2, maxLocals := 1, code := ⟨#[0x2a, 0xb4, 0x00, 0x11, 0xc7, 0x00, 0x0a, 0x2a, 0xb4, 0x00, 0xc6, 0xc6, 0x00, 0x10, 0x2a, 0x03, 0xb6, 0x00, 0xca, 0x57, 0x2a, 0xb2, 0x00, 0x0d, 0xb5, 0x00, 0x11, 0x2a, 0xb0]⟩, exceptionTable := #[], attributes := #[] }
def k10m4 : Method := { name := "fillInStackTrace", desc := "()Ljava/lang/Throwable;", sig := { parameters := [], returnType := some (.object "java/lang/Throwable") }, accessFlags := 33, code := some k10c4 }
def k10m5 : Method := { name := "fillInStackTrace", desc := "(I)Ljava/lang/Throwable;", sig := { parameters := [.int], returnType := some (.object "java/lang/Throwable") }, accessFlags := 258, code := none }
/-- java/lang/Throwable -/
def k10 : Class := { plain "java/lang/Throwable" (some 0) with
  accessFlags := 33
  interfaces := #[2]
  cf := some (fileOf pool10 8 #[.nestMembers #[193, 93, 101, 269]] #[{ accessFlags := 1, nameIndex := 5, descriptorIndex := 6, attributes := #[] }, { accessFlags := 1, nameIndex := 5, descriptorIndex := 223, attributes := #[] }, { accessFlags := 1, nameIndex := 41, descriptorIndex := 38, attributes := #[] }, { accessFlags := 33, nameIndex := 158, descriptorIndex := 30, attributes := #[] }, { accessFlags := 33, nameIndex := 29, descriptorIndex := 30, attributes := #[] }, { accessFlags := 258, nameIndex := 29, descriptorIndex := 204, attributes := #[] }] 33 2 #[318] #[{ accessFlags := 26, nameIndex := 320, descriptorIndex := 321, attributes := #[] }, { accessFlags := 130, nameIndex := 200, descriptorIndex := 201, attributes := #[] }, { accessFlags := 2, nameIndex := 33, descriptorIndex := 34, attributes := #[] }, { accessFlags := 26, nameIndex := 15, descriptorIndex := 16, attributes := #[] }, { accessFlags := 2, nameIndex := 11, descriptorIndex := 12, attributes := #[] }, { accessFlags := 2, nameIndex := 19, descriptorIndex := 16, attributes := #[] }, { accessFlags := 130, nameIndex := 211, descriptorIndex := 212, attributes := #[] }, { accessFlags := 26, nameIndex := 22, descriptorIndex := 23, attributes := #[] }, { accessFlags := 2, nameIndex := 26, descriptorIndex := 23, attributes := #[] }, { accessFlags := 26, nameIndex := 327, descriptorIndex := 34, attributes := #[] }, { accessFlags := 26, nameIndex := 328, descriptorIndex := 34, attributes := #[] }, { accessFlags := 26, nameIndex := 329, descriptorIndex := 34, attributes := #[] }, { accessFlags := 26, nameIndex := 330, descriptorIndex := 34, attributes := #[] }, { accessFlags := 26, nameIndex := 304, descriptorIndex := 305, attributes := #[] }, { accessFlags := 4120, nameIndex := 165, descriptorIndex := 166, attributes := #[] }])
  fields := #[{ name := "serialVersionUID", type := .long, accessFlags := 26, slot := 0, constantValue := 0 }, { name := "backtrace", type := (.object "java/lang/Object"), accessFlags := 130, slot := 0, constantValue := 0 }, { name := "detailMessage", type := (.object "java/lang/String"), accessFlags := 2, slot := 1, constantValue := 0 }, { name := "UNASSIGNED_STACK", type := (.array (.object "java/lang/StackTraceElement")), accessFlags := 26, slot := 1, constantValue := 0 }, { name := "cause", type := (.object "java/lang/Throwable"), accessFlags := 2, slot := 2, constantValue := 0 }, { name := "stackTrace", type := (.array (.object "java/lang/StackTraceElement")), accessFlags := 2, slot := 3, constantValue := 0 }, { name := "depth", type := .int, accessFlags := 130, slot := 4, constantValue := 0 }, { name := "SUPPRESSED_SENTINEL", type := (.object "java/util/List"), accessFlags := 26, slot := 2, constantValue := 0 }, { name := "suppressedExceptions", type := (.object "java/util/List"), accessFlags := 2, slot := 5, constantValue := 0 }, { name := "NULL_CAUSE_MESSAGE", type := (.object "java/lang/String"), accessFlags := 26, slot := 3, constantValue := 0 }, { name := "SELF_SUPPRESSION_MESSAGE", type := (.object "java/lang/String"), accessFlags := 26, slot := 4, constantValue := 0 }, { name := "CAUSE_CAPTION", type := (.object "java/lang/String"), accessFlags := 26, slot := 5, constantValue := 0 }, { name := "SUPPRESSED_CAPTION", type := (.object "java/lang/String"), accessFlags := 26, slot := 6, constantValue := 0 }, { name := "EMPTY_THROWABLE_ARRAY", type := (.array (.object "java/lang/Throwable")), accessFlags := 26, slot := 7, constantValue := 0 }, { name := "$assertionsDisabled", type := .boolean, accessFlags := 4120, slot := 8, constantValue := 0 }]
  methods := #[k10m0, k10m1, k10m2, k10m3, k10m4, k10m5]
  instanceTypes := #[(.object "java/lang/Object"), (.object "java/lang/String"), (.object "java/lang/Throwable"), (.array (.object "java/lang/StackTraceElement")), .int, (.object "java/util/List")]
  staticTypes := #[.long, (.array (.object "java/lang/StackTraceElement")), (.object "java/util/List"), (.object "java/lang/String"), (.object "java/lang/String"), (.object "java/lang/String"), (.object "java/lang/String"), (.array (.object "java/lang/Throwable")), .boolean]
  resolved := Array.replicate 404 none
  statics := some 1 }

def pool11 : Array CpInfo := pool [(2, .class_ 4), (1, u "java/lang/Throwable"), (0, u "<init>"), (0, u "()V"), (0, .methodref 2 8), (0, .nameAndType 5 9), (0, u "(Ljava/lang/String;)V"), (9, .class_ 20), (0, u "java/lang/Exception"), (0, u "serialVersionUID"), (0, u "J")] 17

def k11m0 : Method := { name := "<init>", desc := "()V", sig := { parameters := [], returnType := none }, accessFlags := 1, code := none }
def k11c1 : Code := { maxStack := 2, maxLocals := 2, code := jdk_59_method_2_code, exceptionTable := #[], attributes := #[] }
def k11m1 : Method := { name := "<init>", desc := "(Ljava/lang/String;)V", sig := { parameters := [(.object "java/lang/String")], returnType := none }, accessFlags := 1, code := some k11c1 }
/-- java/lang/Exception -/
def k11 : Class := { plain "java/lang/Exception" (some 10) with
  accessFlags := 33
  interfaces := #[]
  cf := some (fileOf pool11 19 #[] #[{ accessFlags := 1, nameIndex := 5, descriptorIndex := 6, attributes := #[] }, { accessFlags := 1, nameIndex := 5, descriptorIndex := 9, attributes := #[] }] 33 2 #[] #[{ accessFlags := 24, nameIndex := 21, descriptorIndex := 22, attributes := #[] }])
  fields := #[{ name := "serialVersionUID", type := .long, accessFlags := 24, slot := 0, constantValue := 0 }]
  methods := #[k11m0, k11m1]
  instanceTypes := #[(.object "java/lang/Object"), (.object "java/lang/String"), (.object "java/lang/Throwable"), (.array (.object "java/lang/StackTraceElement")), .int, (.object "java/util/List")]
  staticTypes := #[.long]
  resolved := Array.replicate 40 none
  statics := none }

def pool12 : Array CpInfo := pool [(2, .class_ 4), (1, u "java/lang/Exception"), (0, u "<init>"), (0, u "()V"), (0, .methodref 2 8), (0, .nameAndType 5 9), (0, u "(Ljava/lang/String;)V"), (9, .class_ 20), (0, u "java/lang/RuntimeException"), (0, u "serialVersionUID"), (0, u "J")] 17

def k12m0 : Method := { name := "<init>", desc := "()V", sig := { parameters := [], returnType := none }, accessFlags := 1, code := none }
def k12c1 : Code := { maxStack := 2, maxLocals := 2, code := jdk_58_method_2_code, exceptionTable := #[], attributes := #[] }
def k12m1 : Method := { name := "<init>", desc := "(Ljava/lang/String;)V", sig := { parameters := [(.object "java/lang/String")], returnType := none }, accessFlags := 1, code := some k12c1 }
/-- java/lang/RuntimeException -/
def k12 : Class := { plain "java/lang/RuntimeException" (some 11) with
  accessFlags := 33
  interfaces := #[]
  cf := some (fileOf pool12 19 #[] #[{ accessFlags := 1, nameIndex := 5, descriptorIndex := 6, attributes := #[] }, { accessFlags := 1, nameIndex := 5, descriptorIndex := 9, attributes := #[] }] 33 2 #[] #[{ accessFlags := 24, nameIndex := 21, descriptorIndex := 22, attributes := #[] }])
  fields := #[{ name := "serialVersionUID", type := .long, accessFlags := 24, slot := 0, constantValue := 0 }]
  methods := #[k12m0, k12m1]
  instanceTypes := #[(.object "java/lang/Object"), (.object "java/lang/String"), (.object "java/lang/Throwable"), (.array (.object "java/lang/StackTraceElement")), .int, (.object "java/util/List")]
  staticTypes := #[.long]
  resolved := Array.replicate 40 none
  statics := none }

def pool13 : Array CpInfo := pool [(2, .class_ 4), (1, u "java/lang/RuntimeException"), (0, u "<init>"), (0, u "()V"), (0, .methodref 2 8), (0, .nameAndType 5 9), (0, u "(Ljava/lang/String;)V"), (6, .class_ 17), (0, u "java/lang/IllegalStateException"), (0, u "serialVersionUID"), (0, u "J")] 15

def k13m0 : Method := { name := "<init>", desc := "()V", sig := { parameters := [], returnType := none }, accessFlags := 1, code := none }
def k13c1 : Code := { maxStack := 2, maxLocals := 2, code := jdk_60_method_2_code, exceptionTable := #[], attributes := #[] }
def k13m1 : Method := { name := "<init>", desc := "(Ljava/lang/String;)V", sig := { parameters := [(.object "java/lang/String")], returnType := none }, accessFlags := 1, code := some k13c1 }
/-- java/lang/IllegalStateException -/
def k13 : Class := { plain "java/lang/IllegalStateException" (some 12) with
  accessFlags := 33
  interfaces := #[]
  cf := some (fileOf pool13 16 #[] #[{ accessFlags := 1, nameIndex := 5, descriptorIndex := 6, attributes := #[] }, { accessFlags := 1, nameIndex := 5, descriptorIndex := 9, attributes := #[] }] 33 2 #[] #[{ accessFlags := 24, nameIndex := 18, descriptorIndex := 19, attributes := #[] }])
  fields := #[{ name := "serialVersionUID", type := .long, accessFlags := 24, slot := 0, constantValue := 0 }]
  methods := #[k13m0, k13m1]
  instanceTypes := #[(.object "java/lang/Object"), (.object "java/lang/String"), (.object "java/lang/Throwable"), (.array (.object "java/lang/StackTraceElement")), .int, (.object "java/util/List")]
  staticTypes := #[.long]
  resolved := Array.replicate 35 none
  statics := none }

def pool14 : Array CpInfo := pool [(1, .class_ 2), (0, u "java/lang/Appendable"), (0, .class_ 4), (0, u "java/lang/Object")] 9

/-- java/lang/Appendable -/
def k14 : Class := { plain "java/lang/Appendable" (some 0) with
  accessFlags := 1537
  interfaces := #[]
  cf := some (fileOf pool14 1 #[] #[] 1537 3 #[] #[])
  fields := #[]
  methods := #[]
  instanceTypes := #[]
  staticTypes := #[]
  resolved := Array.replicate 14 none
  statics := none }

def pool15 : Array CpInfo := pool [(1, .class_ 2), (0, u "java/lang/String"), (0, .methodref 4 5), (0, .class_ 6), (0, .nameAndType 7 8), (0, u "java/lang/Object"), (0, u "<init>"), (0, u "()V"), (1, .class_ 12), (1, u "java/lang/AbstractStringBuilder"), (0, u "EMPTYVALUE"), (0, u "[B"), (0, .fieldref 10 16), (0, .nameAndType 17 14), (0, u "value"), (0, .fieldref 1 19), (0, .nameAndType 20 21), (0, u "COMPACT_STRINGS"), (0, u "Z"), (0, .fieldref 10 23), (0, .nameAndType 24 25), (0, u "coder"), (0, u "B"), (6, .methodref 1 33), (0, .nameAndType 34 35), (0, u "length"), (0, u "()I"), (3, .integer 2147483647), (0, .methodref 1 41), (0, .nameAndType 24 42), (0, u "()B"), (2, u "append"), (0, u "(Ljava/lang/String;)Ljava/lang/AbstractStringBuilder;"), (1, .class_ 49), (0, u "java/lang/CharSequence"), (19, u "(Ljava/lang/String;)V"), (5, u "maybeLatin1"), (3, .fieldref 10 80), (0, .nameAndType 81 82), (0, u "count"), (0, u "I"), (2, u "isLatin1"), (0, u "()Z"), (13, .methodref 10 101), (0, .nameAndType 102 103), (0, u "ensureCapacityInternal"), (0, u "(I)V"), (0, .methodref 10 105), (0, .nameAndType 106 107), (0, u "newCapacity"), (0, u "(I)I"), (0, .methodref 109 110), (0, .class_ 111), (0, .nameAndType 112 113), (0, u "java/util/Arrays"), (0, u "copyOf"), (0, u "([BI)[B"), (0, .methodref 115 116), (0, .class_ 117), (0, .nameAndType 118 119), (0, u "jdk/internal/util/ArraysSupport"), (0, u "newLength"), (0, u "(III)I"), (88, .methodref 10 209), (0, .nameAndType 210 211), (0, u "putStringAt"), (0, u "(ILjava/lang/String;)V"), (5, u "inflateIfNeededFor"), (2, .nameAndType 221 222), (0, u "getBytes"), (0, u "([BIB)V"), (174, .methodref 10 398), (0, .nameAndType 217 69), (0, .methodref 1 220), (3, u "()[B"), (40, .class_ 445), (0, u "java/lang/Appendable"), (106, u "getValue")] 56

def k15m0 : Method := { name := "<init>", desc := "()V", sig := { parameters := [], returnType := none }, accessFlags := 0, code := none }
def k15c1 : Code := { maxStack := 2, maxLocals := 2, code := jdk_68_method_2_code, exceptionTable := #[], attributes := #[] }
def k15m1 : Method := { name := "<init>", desc := "(I)V", sig := { parameters := [.int], returnType := none }, accessFlags := 0, code := some k15c1 }
def k15c2 : Code := { maxStack := 1, maxLocals := 1, code := jdk_68_method_6_code, exceptionTable := #[], attributes := #[] }
def k15m2 : Method := { name := "length", desc := "()I", sig := { parameters := [], returnType := some .int }, accessFlags := 1, code := some k15c2 }
def k15c3 : Code := { maxStack := 4, maxLocals := 3, code := jdk_68_method_9_code, exceptionTable := #[], attributes := #[] }
def k15m3 : Method := { name := "ensureCapacityInternal", desc := "(I)V", sig := { parameters := [.int], returnType := none }, accessFlags := 2, code := some k15c3 }
def k15c4 : Code := { maxStack := 5, maxLocals := 6, code := jdk_68_method_10_code, exceptionTable := #[], attributes := #[] }
def k15m4 : Method := { name := "newCapacity", desc := "(I)I", sig := { parameters := [.int], returnType := some .int }, accessFlags := 2, code := some k15c4 }
def k15c5 : Code := { maxStack := 3, maxLocals := 3, code := jdk_68_method_22_code, exceptionTable := #[], attributes := #[] }
def k15m5 : Method := { name := "append", desc := "(Ljava/lang/String;)Ljava/lang/AbstractStringBuilder;", sig := { parameters := [(.object "java/lang/String")], returnType := some (.object "java/lang/AbstractStringBuilder") }, accessFlags := 1, code := some k15c5 }
def k15c6 : Code := { maxStack := 1, maxLocals := 1, code := jdk_68_method_64_code, exceptionTable := #[], attributes := #[] }
def k15m6 : Method := { name := "getValue", desc := "()[B", sig := { parameters := [], returnType := some (.array .byte) }, accessFlags := 16, code := some k15c6 }
def k15c7 : Code := { maxStack := 1, maxLocals := 1, code := jdk_68_method_68_code, exceptionTable := #[], attributes := #[] }
def k15m7 : Method := { name := "isLatin1", desc := "()Z", sig := { parameters := [], returnType := some .boolean }, accessFlags := 16, code := some k15c7 }
def k15c8 : Code := { maxStack := 2, maxLocals := 2, code := jdk_68_method_71_code, exceptionTable := #[], attributes := #[] }
def k15m8 : Method := { name := "inflateIfNeededFor", desc := "(Ljava/lang/String;)V", sig := { parameters := [(.object "java/lang/String")], returnType := none }, accessFlags := 2, code := some k15c8 }
def k15c9 : Code := { maxStack := 4, maxLocals := 3, code := jdk_68_method_73_code, exceptionTable := #[], attributes := #[] }
def k15m9 : Method := { name := "putStringAt", desc := "(ILjava/lang/String;)V", sig := { parameters := [.int, (.object "java/lang/String")], returnType := none }, accessFlags := 2, code := some k15c9 }
/-- java/lang/AbstractStringBuilder -/
def k15 : Class := { plain "java/lang/AbstractStringBuilder" (some 0) with
  accessFlags := 1056
  interfaces := #[14, 4]
  cf := some (fileOf pool15 10 #[] #[{ accessFlags := 0, nameIndex := 7, descriptorIndex := 8, attributes := #[] }, { accessFlags := 0, nameIndex := 7, descriptorIndex := 103, attributes := #[] }, { accessFlags := 1, nameIndex := 34, descriptorIndex := 35, attributes := #[] }, { accessFlags := 2, nameIndex := 102, descriptorIndex := 103, attributes := #[] }, { accessFlags := 2, nameIndex := 106, descriptorIndex := 107, attributes := #[] }, { accessFlags := 1, nameIndex := 45, descriptorIndex := 46, attributes := #[] }, { accessFlags := 16, nameIndex := 552, descriptorIndex := 403, attributes := #[] }, { accessFlags := 16, nameIndex := 85, descriptorIndex := 86, attributes := #[] }, { accessFlags := 2, nameIndex := 217, descriptorIndex := 69, attributes := #[] }, { accessFlags := 2, nameIndex := 210, descriptorIndex := 211, attributes := #[] }] 1056 4 #[444, 48] #[{ accessFlags := 0, nameIndex := 17, descriptorIndex := 14, attributes := #[] }, { accessFlags := 0, nameIndex := 24, descriptorIndex := 25, attributes := #[] }, { accessFlags := 0, nameIndex := 75, descriptorIndex := 21, attributes := #[] }, { accessFlags := 0, nameIndex := 81, descriptorIndex := 82, attributes := #[] }, { accessFlags := 26, nameIndex := 13, descriptorIndex := 14, attributes := #[] }])
  fields := #[{ name := "value", type := (.array .byte), accessFlags := 0, slot := 0, constantValue := 0 }, { name := "coder", type := .byte, accessFlags := 0, slot := 1, constantValue := 0 }, { name := "maybeLatin1", type := .boolean, accessFlags := 0, slot := 2, constantValue := 0 }, { name := "count", type := .int, accessFlags := 0, slot := 3, constantValue := 0 }, { name := "EMPTYVALUE", type := (.array .byte), accessFlags := 26, slot := 0, constantValue := 0 }]
  methods := #[k15m0, k15m1, k15m2, k15m3, k15m4, k15m5, k15m6, k15m7, k15m8, k15m9]
  instanceTypes := #[(.array .byte), .byte, .boolean, .int]
  staticTypes := #[(.array .byte)]
  resolved := Array.replicate 609 none
  statics := none }

def pool16 : Array CpInfo := pool [(1, .methodref 2 3), (0, .class_ 4), (0, .nameAndType 5 6), (0, u "java/lang/AbstractStringBuilder"), (0, u "<init>"), (0, u "(I)V"), (11, .class_ 20), (1, u "java/lang/String"), (3, .class_ 26), (1, u "java/lang/StringBuilder"), (0, u "append"), (0, u "(Ljava/lang/String;)Ljava/lang/StringBuilder;"), (0, .methodref 2 30), (0, .nameAndType 27 31), (0, u "(Ljava/lang/String;)Ljava/lang/AbstractStringBuilder;"), (105, .methodref 18 138), (0, .nameAndType 5 139), (0, u "(Ljava/lang/StringBuilder;)V"), (5, u "()V"), (10, u "()I"), (186, .methodref 2 344), (0, .nameAndType 345 156), (0, u "length"), (3, .class_ 350), (0, u "java/lang/Appendable"), (0, .class_ 352), (0, u "java/io/Serializable"), (0, .class_ 354), (0, u "java/lang/Comparable"), (0, .class_ 356), (0, u "java/lang/CharSequence"), (0, u "serialVersionUID"), (0, u "J"), (40, u "toString"), (0, u "()Ljava/lang/String;")] 21

def k16c0 : Code := { maxStack := 2, maxLocals := 1, code := jdk_67_method_1_code, exceptionTable := #[], attributes := #[] }
def k16m0 : Method := { name := "<init>", desc := "()V", sig := { parameters := [], returnType := none }, accessFlags := 1, code := some k16c0 }
def k16c1 : Code := { maxStack := 2, maxLocals := 2, code := jdk_67_method_7_code, exceptionTable := #[], attributes := #[] }
def k16m1 : Method := { name := "append", desc := "(Ljava/lang/String;)Ljava/lang/StringBuilder;", sig := { parameters := [(.object "java/lang/String")], returnType := some (.object "java/lang/StringBuilder") }, accessFlags := 1, code := some k16c1 }
def k16c2 : Code := { maxStack := 3, maxLocals := 1, code := jdk_67_method_42_code, exceptionTable := #[], attributes := #[] }
def k16m2 : Method := { name := "toString", desc := "()Ljava/lang/String;", sig := { parameters := [], returnType := some (.object "java/lang/String") }, accessFlags := 1, code := some k16c2 }
def k16c3 : Code := { maxStack := 1, maxLocals := 1, code := jdk_67_method_93_code, exceptionTable := #[], attributes := #[] }
def k16m3 : Method := { name := "length", desc := "()I", sig := { parameters := [], returnType := some .int }, accessFlags := 4161, code := some k16c3 }
/-- java/lang/StringBuilder -/
def k16 : Class := { plain "java/lang/StringBuilder" (some 15) with
  accessFlags := 49
  interfaces := #[14, 2, 3, 4]
  cf := some (fileOf pool16 24 #[] #[{ accessFlags := 1, nameIndex := 5, descriptorIndex := 145, attributes := #[] }, { accessFlags := 1, nameIndex := 27, descriptorIndex := 28, attributes := #[] }, { accessFlags := 1, nameIndex := 399, descriptorIndex := 400, attributes := #[] }, { accessFlags := 4161, nameIndex := 345, descriptorIndex := 156, attributes := #[] }] 49 2 #[349, 351, 353, 355] #[{ accessFlags := 24, nameIndex := 357, descriptorIndex := 358, attributes := #[] }])
  fields := #[{ name := "serialVersionUID", type := .long, accessFlags := 24, slot := 0, constantValue := 0 }]
  methods := #[k16m0, k16m1, k16m2, k16m3]
  instanceTypes := #[(.array .byte), .byte, .boolean, .int]
  staticTypes := #[.long]
  resolved := Array.replicate 422 none
  statics := none }

def pool17 : Array CpInfo := pool [(9, u "<init>"), (6, .class_ 18), (1, u "java/lang/Object"), (0, u "()V"), (1, .class_ 23), (1, u "jdk/internal/util/ArraysSupport"), (0, u "LOG2_ARRAY_LONG_INDEX_SCALE"), (0, u "I"), (2, u "U"), (0, u "Ljdk/internal/misc/Unsafe;"), (8, u "BIG_ENDIAN"), (0, u "Z"), (8, u "LOG2_BYTE_BIT_SIZE"), (4, u "LOG2_ARRAY_INT_INDEX_SCALE"), (54, u "JLA"), (0, u "Ljdk/internal/access/JavaLangAccess;"), (11, u "LOG2_ARRAY_BOOLEAN_INDEX_SCALE"), (9, u "LOG2_ARRAY_BYTE_INDEX_SCALE"), (5, u "LOG2_ARRAY_CHAR_INDEX_SCALE"), (5, u "LOG2_ARRAY_SHORT_INDEX_SCALE"), (18, u "LOG2_ARRAY_FLOAT_INDEX_SCALE"), (24, u "LOG2_ARRAY_DOUBLE_INDEX_SCALE"), (6, .methodref 195 196), (0, .class_ 197), (0, .nameAndType 198 199), (0, u "java/lang/Math"), (0, u "max"), (0, u "(II)I"), (0, .integer 2147483639), (76, u "T_BOOLEAN"), (2, u "T_CHAR"), (1, u "T_FLOAT"), (1, u "T_DOUBLE"), (1, u "T_BYTE"), (1, u "T_SHORT"), (1, u "T_INT"), (1, u "T_LONG"), (1, u "SOFT_MAX_ARRAY_LENGTH"), (56, u "newLength"), (0, u "(III)I")] 25

def k17m0 : Method := { name := "<init>", desc := "()V", sig := { parameters := [], returnType := none }, accessFlags := 2, code := none }
def k17c1 : Code := { maxStack := 3, maxLocals := 4, code := jdk_48_method_27_code, exceptionTable := #[], attributes := #[] }
def k17m1 : Method := { name := "newLength", desc := "(III)I", sig := { parameters := [.int, .int, .int], returnType := some .int }, accessFlags := 9, code := some k17c1 }
/-- jdk/internal/util/ArraysSupport -/
def k17 : Class := { plain "jdk/internal/util/ArraysSupport" (some 0) with
  accessFlags := 33
  interfaces := #[]
  cf := some (fileOf pool17 21 #[] #[{ accessFlags := 2, nameIndex := 9, descriptorIndex := 19, attributes := #[] }, { accessFlags := 9, nameIndex := 351, descriptorIndex := 352, attributes := #[] }] 33 16 #[] #[{ accessFlags := 24, nameIndex := 28, descriptorIndex := 29, attributes := #[] }, { accessFlags := 26, nameIndex := 38, descriptorIndex := 39, attributes := #[] }, { accessFlags := 25, nameIndex := 121, descriptorIndex := 25, attributes := #[] }, { accessFlags := 25, nameIndex := 131, descriptorIndex := 25, attributes := #[] }, { accessFlags := 25, nameIndex := 137, descriptorIndex := 25, attributes := #[] }, { accessFlags := 25, nameIndex := 143, descriptorIndex := 25, attributes := #[] }, { accessFlags := 25, nameIndex := 53, descriptorIndex := 25, attributes := #[] }, { accessFlags := 25, nameIndex := 24, descriptorIndex := 25, attributes := #[] }, { accessFlags := 25, nameIndex := 162, descriptorIndex := 25, attributes := #[] }, { accessFlags := 25, nameIndex := 187, descriptorIndex := 25, attributes := #[] }, { accessFlags := 26, nameIndex := 48, descriptorIndex := 25, attributes := #[] }, { accessFlags := 25, nameIndex := 277, descriptorIndex := 25, attributes := #[] }, { accessFlags := 25, nameIndex := 280, descriptorIndex := 25, attributes := #[] }, { accessFlags := 25, nameIndex := 282, descriptorIndex := 25, attributes := #[] }, { accessFlags := 25, nameIndex := 284, descriptorIndex := 25, attributes := #[] }, { accessFlags := 25, nameIndex := 286, descriptorIndex := 25, attributes := #[] }, { accessFlags := 25, nameIndex := 288, descriptorIndex := 25, attributes := #[] }, { accessFlags := 25, nameIndex := 290, descriptorIndex := 25, attributes := #[] }, { accessFlags := 25, nameIndex := 292, descriptorIndex := 25, attributes := #[] }, { accessFlags := 26, nameIndex := 108, descriptorIndex := 109, attributes := #[] }, { accessFlags := 25, nameIndex := 294, descriptorIndex := 25, attributes := #[] }])
  fields := #[{ name := "U", type := (.object "jdk/internal/misc/Unsafe"), accessFlags := 24, slot := 0, constantValue := 0 }, { name := "BIG_ENDIAN", type := .boolean, accessFlags := 26, slot := 1, constantValue := 0 }, { name := "LOG2_ARRAY_BOOLEAN_INDEX_SCALE", type := .int, accessFlags := 25, slot := 2, constantValue := 0 }, { name := "LOG2_ARRAY_BYTE_INDEX_SCALE", type := .int, accessFlags := 25, slot := 3, constantValue := 0 }, { name := "LOG2_ARRAY_CHAR_INDEX_SCALE", type := .int, accessFlags := 25, slot := 4, constantValue := 0 }, { name := "LOG2_ARRAY_SHORT_INDEX_SCALE", type := .int, accessFlags := 25, slot := 5, constantValue := 0 }, { name := "LOG2_ARRAY_INT_INDEX_SCALE", type := .int, accessFlags := 25, slot := 6, constantValue := 0 }, { name := "LOG2_ARRAY_LONG_INDEX_SCALE", type := .int, accessFlags := 25, slot := 7, constantValue := 0 }, { name := "LOG2_ARRAY_FLOAT_INDEX_SCALE", type := .int, accessFlags := 25, slot := 8, constantValue := 0 }, { name := "LOG2_ARRAY_DOUBLE_INDEX_SCALE", type := .int, accessFlags := 25, slot := 9, constantValue := 0 }, { name := "LOG2_BYTE_BIT_SIZE", type := .int, accessFlags := 26, slot := 10, constantValue := 0 }, { name := "T_BOOLEAN", type := .int, accessFlags := 25, slot := 11, constantValue := 0 }, { name := "T_CHAR", type := .int, accessFlags := 25, slot := 12, constantValue := 0 }, { name := "T_FLOAT", type := .int, accessFlags := 25, slot := 13, constantValue := 0 }, { name := "T_DOUBLE", type := .int, accessFlags := 25, slot := 14, constantValue := 0 }, { name := "T_BYTE", type := .int, accessFlags := 25, slot := 15, constantValue := 0 }, { name := "T_SHORT", type := .int, accessFlags := 25, slot := 16, constantValue := 0 }, { name := "T_INT", type := .int, accessFlags := 25, slot := 17, constantValue := 0 }, { name := "T_LONG", type := .int, accessFlags := 25, slot := 18, constantValue := 0 }, { name := "JLA", type := (.object "jdk/internal/access/JavaLangAccess"), accessFlags := 26, slot := 19, constantValue := 0 }, { name := "SOFT_MAX_ARRAY_LENGTH", type := .int, accessFlags := 25, slot := 20, constantValue := 0 }]
  methods := #[k17m0, k17m1]
  instanceTypes := #[]
  staticTypes := #[(.object "jdk/internal/misc/Unsafe"), .boolean, .int, .int, .int, .int, .int, .int, .int, .int, .int, .int, .int, .int, .int, .int, .int, .int, .int, (.object "jdk/internal/access/JavaLangAccess"), .int]
  resolved := Array.replicate 378 none
  statics := none }

def pool18 : Array CpInfo := pool [(1, .class_ 2), (0, u "java/lang/Math"), (1, .class_ 6), (1, u "java/lang/Object"), (0, u "<init>"), (0, u "()V"), (89, .class_ 100), (1, u "java/lang/Math$RandomNumberGeneratorHolder"), (71, u "negativeZeroFloatBits"), (0, u "J"), (2, u "negativeZeroDoubleBits"), (21, u "max"), (2, u "min"), (43, u "$assertionsDisabled"), (0, u "Z"), (88, u "(II)I"), (2, u "twoToTheDoubleScaleDown"), (0, u "D"), (4, u "twoToTheDoubleScaleUp"), (9, u "E"), (3, u "PI"), (2, u "TAU"), (2, u "DEGREES_TO_RADIANS"), (0, u "RADIANS_TO_DEGREES")] 94

def k18m0 : Method := { name := "<init>", desc := "()V", sig := { parameters := [], returnType := none }, accessFlags := 2, code := none }
def k18c1 : Code := { maxStack := 2, maxLocals := 2, code := jdk_29_method_65_code, exceptionTable := #[], attributes := #[] }
def k18m1 : Method := { name := "max", desc := "(II)I", sig := { parameters := [.int, .int], returnType := some .int }, accessFlags := 9, code := some k18c1 }
def k18c2 : Code := { maxStack := 2, maxLocals := 2, code := jdk_29_method_69_code, exceptionTable := #[], attributes := #[] }
def k18m2 : Method := { name := "min", desc := "(II)I", sig := { parameters := [.int, .int], returnType := some .int }, accessFlags := 9, code := some k18c2 }
/-- java/lang/Math -/
def k18 : Class := { plain "java/lang/Math" (some 0) with
  accessFlags := 49
  interfaces := #[]
  cf := some (fileOf pool18 1 #[.nestMembers #[98]] #[{ accessFlags := 2, nameIndex := 7, descriptorIndex := 8, attributes := #[] }, { accessFlags := 9, nameIndex := 198, descriptorIndex := 335, attributes := #[] }, { accessFlags := 9, nameIndex := 201, descriptorIndex := 335, attributes := #[] }] 49 4 #[] #[{ accessFlags := 25, nameIndex := 354, descriptorIndex := 339, attributes := #[] }, { accessFlags := 25, nameIndex := 358, descriptorIndex := 339, attributes := #[] }, { accessFlags := 25, nameIndex := 361, descriptorIndex := 339, attributes := #[] }, { accessFlags := 26, nameIndex := 364, descriptorIndex := 339, attributes := #[] }, { accessFlags := 26, nameIndex := 365, descriptorIndex := 339, attributes := #[] }, { accessFlags := 26, nameIndex := 172, descriptorIndex := 173, attributes := #[] }, { accessFlags := 26, nameIndex := 176, descriptorIndex := 173, attributes := #[] }, { accessFlags := 8, nameIndex := 344, descriptorIndex := 339, attributes := #[] }, { accessFlags := 8, nameIndex := 338, descriptorIndex := 339, attributes := #[] }, { accessFlags := 4120, nameIndex := 245, descriptorIndex := 246, attributes := #[] }])
  fields := #[{ name := "E", type := .double, accessFlags := 25, slot := 0, constantValue := 0 }, { name := "PI", type := .double, accessFlags := 25, slot := 1, constantValue := 0 }, { name := "TAU", type := .double, accessFlags := 25, slot := 2, constantValue := 0 }, { name := "DEGREES_TO_RADIANS", type := .double, accessFlags := 26, slot := 3, constantValue := 0 }, { name := "RADIANS_TO_DEGREES", type := .double, accessFlags := 26, slot := 4, constantValue := 0 }, { name := "negativeZeroFloatBits", type := .long, accessFlags := 26, slot := 5, constantValue := 0 }, { name := "negativeZeroDoubleBits", type := .long, accessFlags := 26, slot := 6, constantValue := 0 }, { name := "twoToTheDoubleScaleUp", type := .double, accessFlags := 8, slot := 7, constantValue := 0 }, { name := "twoToTheDoubleScaleDown", type := .double, accessFlags := 8, slot := 8, constantValue := 0 }, { name := "$assertionsDisabled", type := .boolean, accessFlags := 4120, slot := 9, constantValue := 0 }]
  methods := #[k18m0, k18m1, k18m2]
  instanceTypes := #[]
  staticTypes := #[.double, .double, .double, .double, .double, .long, .long, .double, .double, .boolean]
  resolved := Array.replicate 460 none
  statics := none }

def pool19 : Array CpInfo := pool [(2, .class_ 4), (1, u "java/lang/Object"), (0, u "<init>"), (0, u "()V"), (7, .class_ 16), (1, u "java/util/Arrays"), (57, .class_ 76), (1, u "java/util/Arrays$NaturalOrder"), (32, u "()Ljava/lang/Object;"), (3, .class_ 115), (1, u "java/util/Arrays$LegacyMergeSort"), (1, u "Z"), (10, .nameAndType 129 109), (0, u "clone"), (9, u "copyOfRange"), (10, .methodref 151 152), (0, .class_ 153), (0, .nameAndType 154 155), (0, u "java/lang/System"), (0, u "arraycopy"), (0, u "(Ljava/lang/Object;ILjava/lang/Object;II)V"), (146, u "copyOf"), (1, .methodref 305 306), (0, .class_ 307), (0, .nameAndType 308 309), (0, u "java/lang/Math"), (0, u "min"), (0, u "(II)I"), (0, .methodref 311 128), (0, .class_ 312), (0, u "[B"), (29, u "([BII)[B"), (32, .class_ 376), (0, u "java/util/Arrays$ArrayList"), (68, u "$assertionsDisabled"), (269, u "MIN_ARRAY_SORT_GRAN"), (0, u "I"), (2, u "INSERTIONSORT_THRESHOLD"), (149, u "([BI)[B"), (105, .class_ 976), (0, u "java/util/Arrays$ArrayItr")] 52

def k19m0 : Method := { name := "<init>", desc := "()V", sig := { parameters := [], returnType := none }, accessFlags := 2, code := none }
def k19c1 : Code := { maxStack := 6, maxLocals := 3, code := jdk_65_method_121_code, exceptionTable := #[], attributes := #[] }
def k19m1 : Method := { name := "copyOf", desc := "([BI)[B", sig := { parameters := [(.array .byte), .int], returnType := some (.array .byte) }, accessFlags := 9, code := some k19c1 }
def k19c2 : Code := { maxStack := 3, maxLocals := 3, code := jdk_65_method_132_code, exceptionTable := #[], attributes := #[] }
def k19m2 : Method := { name := "copyOfRange", desc := "([BII)[B", sig := { parameters := [(.array .byte), .int, .int], returnType := some (.array .byte) }, accessFlags := 9, code := some k19c2 }
/-- java/util/Arrays -/
def k19 : Class := { plain "java/util/Arrays" (some 0) with
  accessFlags := 49
  interfaces := #[]
  cf := some (fileOf pool19 14 #[.nestMembers #[975, 375, 113, 74]] #[{ accessFlags := 2, nameIndex := 5, descriptorIndex := 6, attributes := #[] }, { accessFlags := 9, nameIndex := 302, descriptorIndex := 869, attributes := #[] }, { accessFlags := 9, nameIndex := 139, descriptorIndex := 342, attributes := #[] }] 49 2 #[] #[{ accessFlags := 26, nameIndex := 715, descriptorIndex := 716, attributes := #[] }, { accessFlags := 26, nameIndex := 719, descriptorIndex := 716, attributes := #[] }, { accessFlags := 4120, nameIndex := 445, descriptorIndex := 117, attributes := #[] }])
  fields := #[{ name := "MIN_ARRAY_SORT_GRAN", type := .int, accessFlags := 26, slot := 0, constantValue := 0 }, { name := "INSERTIONSORT_THRESHOLD", type := .int, accessFlags := 26, slot := 1, constantValue := 0 }, { name := "$assertionsDisabled", type := .boolean, accessFlags := 4120, slot := 2, constantValue := 0 }]
  methods := #[k19m0, k19m1, k19m2]
  instanceTypes := #[]
  staticTypes := #[.int, .int, .boolean]
  resolved := Array.replicate 1029 none
  statics := none }

def pool20 : Array CpInfo := pool [(2, .class_ 4), (1, u "java/lang/Object"), (0, u "<init>"), (0, u "()V"), (1, .class_ 10), (1, u "java/lang/System"), (0, u "allowSecurityManager"), (0, u "I"), (16, u "cons"), (0, u "Ljava/io/Console;"), (77, .class_ 110), (1, u "java/lang/System$CallersHolder"), (43, u "initialErrStream"), (0, u "Ljava/io/PrintStream;"), (19, u "security"), (0, u "Ljava/lang/SecurityManager;"), (31, .class_ 209), (0, u "java/lang/System$1"), (7, u "props"), (0, u "Ljava/util/Properties;"), (2, u "lineSeparator"), (0, u "Ljava/lang/String;"), (96, .class_ 321), (1, u "java/lang/System$LoggerFinder"), (5, .class_ 328), (0, u "java/lang/System$Logger"), (67, u "err"), (2, u "out"), (91, u "notSupportedJnuEncoding"), (15, u "in"), (17, u "initialIn"), (0, u "Ljava/io/InputStream;"), (35, u "bootLayer"), (0, u "Ljava/lang/ModuleLayer;"), (99, .class_ 664), (0, u "java/lang/System$2"), (9, u "NEVER"), (2, u "MAYBE"), (49, u "arraycopy"), (0, u "(Ljava/lang/Object;ILjava/lang/Object;II)V"), (72, .class_ 802), (0, u "java/lang/System$Logger$Level")] 31

def k20m0 : Method := { name := "<init>", desc := "()V", sig := { parameters := [], returnType := none }, accessFlags := 2, code := none }
def k20m1 : Method := { name := "arraycopy", desc := "(Ljava/lang/Object;ILjava/lang/Object;II)V", sig := { parameters := [(.object "java/lang/Object"), .int, (.object "java/lang/Object"), .int, .int], returnType := none }, accessFlags := 265, code := none }
/-- java/lang/System -/
def k20 : Class := { plain "java/lang/System" (some 0) with
  accessFlags := 49
  interfaces := #[]
  cf := some (fileOf pool20 8 #[.nestMembers #[319, 327, 801, 108, 663, 208]] #[{ accessFlags := 2, nameIndex := 5, descriptorIndex := 6, attributes := #[] }, { accessFlags := 265, nameIndex := 727, descriptorIndex := 728, attributes := #[] }] 49 2 #[] #[{ accessFlags := 25, nameIndex := 507, descriptorIndex := 526, attributes := #[] }, { accessFlags := 25, nameIndex := 399, descriptorIndex := 155, attributes := #[] }, { accessFlags := 25, nameIndex := 396, descriptorIndex := 155, attributes := #[] }, { accessFlags := 10, nameIndex := 525, descriptorIndex := 526, attributes := #[] }, { accessFlags := 26, nameIndex := 674, descriptorIndex := 12, attributes := #[] }, { accessFlags := 26, nameIndex := 677, descriptorIndex := 12, attributes := #[] }, { accessFlags := 10, nameIndex := 11, descriptorIndex := 12, attributes := #[] }, { accessFlags := 74, nameIndex := 175, descriptorIndex := 176, attributes := #[] }, { accessFlags := 10, nameIndex := 491, descriptorIndex := 222, attributes := #[] }, { accessFlags := 74, nameIndex := 29, descriptorIndex := 30, attributes := #[] }, { accessFlags := 74, nameIndex := 154, descriptorIndex := 155, attributes := #[] }, { accessFlags := 10, nameIndex := 217, descriptorIndex := 218, attributes := #[] }, { accessFlags := 10, nameIndex := 221, descriptorIndex := 222, attributes := #[] }, { accessFlags := 8, nameIndex := 562, descriptorIndex := 563, attributes := #[] }])
  fields := #[{ name := "in", type := (.object "java/io/InputStream"), accessFlags := 25, slot := 0, constantValue := 0 }, { name := "out", type := (.object "java/io/PrintStream"), accessFlags := 25, slot := 1, constantValue := 0 }, { name := "err", type := (.object "java/io/PrintStream"), accessFlags := 25, slot := 2, constantValue := 0 }, { name := "initialIn", type := (.object "java/io/InputStream"), accessFlags := 10, slot := 3, constantValue := 0 }, { name := "NEVER", type := .int, accessFlags := 26, slot := 4, constantValue := 0 }, { name := "MAYBE", type := .int, accessFlags := 26, slot := 5, constantValue := 0 }, { name := "allowSecurityManager", type := .int, accessFlags := 10, slot := 6, constantValue := 0 }, { name := "security", type := (.object "java/lang/SecurityManager"), accessFlags := 74, slot := 7, constantValue := 0 }, { name := "notSupportedJnuEncoding", type := (.object "java/lang/String"), accessFlags := 10, slot := 8, constantValue := 0 }, { name := "cons", type := (.object "java/io/Console"), accessFlags := 74, slot := 9, constantValue := 0 }, { name := "initialErrStream", type := (.object "java/io/PrintStream"), accessFlags := 74, slot := 10, constantValue := 0 }, { name := "props", type := (.object "java/util/Properties"), accessFlags := 10, slot := 11, constantValue := 0 }, { name := "lineSeparator", type := (.object "java/lang/String"), accessFlags := 10, slot := 12, constantValue := 0 }, { name := "bootLayer", type := (.object "java/lang/ModuleLayer"), accessFlags := 8, slot := 13, constantValue := 0 }]
  methods := #[k20m0, k20m1]
  instanceTypes := #[]
  staticTypes := #[(.object "java/io/InputStream"), (.object "java/io/PrintStream"), (.object "java/io/PrintStream"), (.object "java/io/InputStream"), .int, .int, .int, (.object "java/lang/SecurityManager"), (.object "java/lang/String"), (.object "java/io/Console"), (.object "java/io/PrintStream"), (.object "java/util/Properties"), (.object "java/lang/String"), (.object "java/lang/ModuleLayer")]
  resolved := Array.replicate 834 none
  statics := none }

def pool21 : Array CpInfo := pool [(1, .class_ 2), (0, u "java/lang/Cloneable"), (0, .class_ 4), (0, u "java/lang/Object")] 2

/-- java/lang/Cloneable -/
def k21 : Class := { plain "java/lang/Cloneable" (some 0) with
  accessFlags := 1537
  interfaces := #[]
  cf := some (fileOf pool21 1 #[] #[] 1537 3 #[] #[])
  fields := #[]
  methods := #[]
  instanceTypes := #[]
  staticTypes := #[]
  resolved := Array.replicate 7 none
  statics := none }

def pool22 : Array CpInfo := pool [(1, .class_ 2), (0, u "java/lang/String"), (1, .class_ 6), (1, u "java/lang/Object"), (0, u "<init>"), (0, u "()V"), (0, .methodref 1 10), (0, .nameAndType 11 12), (0, u "checkIndex"), (0, u "(II)V"), (1, .class_ 16), (1, u "java/lang/StringLatin1"), (36, u "([BI)C"), (67, u "$assertionsDisabled"), (0, u "Z"), (98, .class_ 223), (1, u "java/lang/StringLatin1$LinesSpliterator"), (28, u "charAt"), (137, .class_ 391), (0, u "java/lang/StringLatin1$CharsSpliterator")] 3

def k22m0 : Method := { name := "<init>", desc := "()V", sig := { parameters := [], returnType := none }, accessFlags := 0, code := none }
def k22c1 : Code := { maxStack := 2, maxLocals := 2, code := jdk_43_method_2_code, exceptionTable := #[], attributes := #[] }
def k22m1 : Method := { name := "charAt", desc := "([BI)C", sig := { parameters := [(.array .byte), .int], returnType := some .char }, accessFlags := 9, code := some k22c1 }
/-- java/lang/StringLatin1 -/
def k22 : Class := { plain "java/lang/StringLatin1" (some 0) with
  accessFlags := 48
  interfaces := #[]
  cf := some (fileOf pool22 14 #[.nestMembers #[390, 221]] #[{ accessFlags := 0, nameIndex := 7, descriptorIndex := 8, attributes := #[] }, { accessFlags := 9, nameIndex := 252, descriptorIndex := 53, attributes := #[] }] 48 4 #[] #[{ accessFlags := 4120, nameIndex := 121, descriptorIndex := 122, attributes := #[] }])
  fields := #[{ name := "$assertionsDisabled", type := .boolean, accessFlags := 4120, slot := 0, constantValue := 0 }]
  methods := #[k22m0, k22m1]
  instanceTypes := #[]
  staticTypes := #[.boolean]
  resolved := Array.replicate 395 none
  statics := none }

def pool23 : Array CpInfo := pool [(2, .class_ 4), (1, u "java/lang/Object"), (0, u "<init>"), (0, u "()V"), (17, .class_ 26), (1, u "jdk/internal/util/Preconditions"), (6, u "checkIndex"), (21, .class_ 56), (0, u "jdk/internal/util/Preconditions$4"), (57, .class_ 115), (0, u "jdk/internal/util/Preconditions$1"), (7, u "SIOOBE_FORMATTER"), (0, u "Ljava/util/function/BiFunction;"), (0, .class_ 126), (0, u "jdk/internal/util/Preconditions$2"), (3, u "AIOOBE_FORMATTER"), (0, .class_ 132), (0, u "jdk/internal/util/Preconditions$3"), (3, u "IOOBE_FORMATTER"), (41, u "(IILjava/util/function/BiFunction;)I")] 15

def k23m0 : Method := { name := "<init>", desc := "()V", sig := { parameters := [], returnType := none }, accessFlags := 1, code := none }
def k23c1 : Code := { maxStack := 3, maxLocals := 3, code := jdk_41_method_11_code, exceptionTable := #[], attributes := #[] }
def k23m1 : Method := { name := "checkIndex", desc := "(IILjava/util/function/BiFunction;)I", sig := { parameters := [.int, .int, (.object "java/util/function/BiFunction")], returnType := some .int }, accessFlags := 9, code := some k23c1 }
/-- jdk/internal/util/Preconditions -/
def k23 : Class := { plain "jdk/internal/util/Preconditions" (some 0) with
  accessFlags := 33
  interfaces := #[]
  cf := some (fileOf pool23 24 #[.nestMembers #[55, 131, 125, 114]] #[{ accessFlags := 1, nameIndex := 5, descriptorIndex := 6, attributes := #[] }, { accessFlags := 9, nameIndex := 33, descriptorIndex := 178, attributes := #[] }] 33 2 #[] #[{ accessFlags := 25, nameIndex := 123, descriptorIndex := 124, attributes := #[] }, { accessFlags := 25, nameIndex := 130, descriptorIndex := 124, attributes := #[] }, { accessFlags := 25, nameIndex := 136, descriptorIndex := 124, attributes := #[] }])
  fields := #[{ name := "SIOOBE_FORMATTER", type := (.object "java/util/function/BiFunction"), accessFlags := 25, slot := 0, constantValue := 0 }, { name := "AIOOBE_FORMATTER", type := (.object "java/util/function/BiFunction"), accessFlags := 25, slot := 1, constantValue := 0 }, { name := "IOOBE_FORMATTER", type := (.object "java/util/function/BiFunction"), accessFlags := 25, slot := 2, constantValue := 0 }]
  methods := #[k23m0, k23m1]
  instanceTypes := #[]
  staticTypes := #[(.object "java/util/function/BiFunction"), (.object "java/util/function/BiFunction"), (.object "java/util/function/BiFunction")]
  resolved := Array.replicate 194 none
  statics := some 2 }

def pool24 : Array CpInfo := pool [(2, .class_ 4), (1, u "java/lang/Object"), (0, u "<init>"), (0, u "()V"), (12, .class_ 20), (0, u "java/util/Collections"), (63, u "r"), (0, u "Ljava/util/Random;"), (80, .class_ 167), (0, u "java/util/Collections$UnmodifiableCollection"), (6, .class_ 175), (0, u "java/util/Collections$UnmodifiableSequencedCollection"), (6, .class_ 183), (0, u "java/util/Collections$UnmodifiableSet"), (6, .class_ 191), (0, u "java/util/Collections$UnmodifiableSequencedSet"), (6, .class_ 199), (0, u "java/util/Collections$UnmodifiableSortedSet"), (6, .class_ 207), (0, u "java/util/Collections$UnmodifiableNavigableSet"), (4, .class_ 213), (0, u "java/util/Collections$UnmodifiableList"), (1, .class_ 216), (0, u "java/util/Collections$UnmodifiableRandomAccessList"), (6, .class_ 224), (0, u "java/util/Collections$UnmodifiableMap"), (6, .class_ 232), (0, u "java/util/Collections$UnmodifiableSequencedMap"), (4, .class_ 238), (0, u "java/util/Collections$UnmodifiableSortedMap"), (6, .class_ 246), (0, u "java/util/Collections$UnmodifiableNavigableMap"), (3, .class_ 251), (0, u "java/util/Collections$SynchronizedCollection"), (4, .class_ 257), (0, u "java/util/Collections$SynchronizedSet"), (4, .class_ 263), (0, u "java/util/Collections$SynchronizedSortedSet"), (1, .class_ 266), (0, u "java/util/Collections$SynchronizedNavigableSet"), (1, .class_ 269), (0, u "java/util/Collections$SynchronizedRandomAccessList"), (1, .class_ 272), (0, u "java/util/Collections$SynchronizedList"), (5, .class_ 279), (0, u "java/util/Collections$SynchronizedMap"), (1, .class_ 282), (0, u "java/util/Collections$SynchronizedSortedMap"), (1, .class_ 285), (0, u "java/util/Collections$SynchronizedNavigableMap"), (1, .class_ 288), (0, u "java/util/Collections$CheckedCollection"), (11, .class_ 301), (0, u "java/util/Collections$CheckedQueue"), (3, .class_ 306), (0, u "java/util/Collections$CheckedSet"), (3, .class_ 311), (0, u "java/util/Collections$CheckedSortedSet"), (3, .class_ 316), (0, u "java/util/Collections$CheckedNavigableSet"), (3, .class_ 321), (0, u "java/util/Collections$CheckedRandomAccessList"), (3, .class_ 326), (0, u "java/util/Collections$CheckedList"), (1, .class_ 329), (0, u "java/util/Collections$CheckedMap"), (3, .class_ 334), (0, u "java/util/Collections$CheckedSortedMap"), (3, .class_ 339), (0, u "java/util/Collections$CheckedNavigableMap"), (4, .class_ 346), (1, u "java/util/Collections$EmptyIterator"), (3, .class_ 352), (1, u "java/util/Collections$EmptyListIterator"), (2, .class_ 357), (1, u "java/util/Collections$EmptyEnumeration"), (4, u "EMPTY_SET"), (0, u "Ljava/util/Set;"), (6, u "EMPTY_LIST"), (0, u "Ljava/util/List;"), (2, u "EMPTY_MAP"), (0, u "Ljava/util/Map;"), (4, .class_ 381), (0, u "java/util/Collections$SingletonSet"), (2, .class_ 385), (0, u "java/util/Collections$1"), (1, .class_ 388), (0, u "java/util/Collections$2"), (1, .class_ 391), (0, u "java/util/Collections$SingletonList"), (1, .class_ 394), (0, u "java/util/Collections$SingletonMap"), (22, .class_ 418), (0, u "java/util/Collections$CopiesList"), (4, .class_ 425), (1, u "java/util/Collections$ReverseComparator"), (8, .class_ 435), (0, u "java/util/Collections$ReverseComparator2"), (6, .class_ 443), (0, u "java/util/Collections$3"), (25, .class_ 470), (0, u "java/util/Collections$SetFromMap"), (2, .class_ 474), (0, u "java/util/Collections$SequencedSetFromMap"), (3, .class_ 479), (0, u "java/util/Collections$AsLIFOQueue"), (11, .class_ 492), (0, u "java/util/Collections$EmptySet"), (1, .class_ 495), (0, u "java/util/Collections$EmptyList"), (1, .class_ 498), (0, u "java/util/Collections$EmptyMap"), (1, u "BINARYSEARCH_THRESHOLD"), (0, u "I"), (2, u "REVERSE_THRESHOLD"), (1, u "SHUFFLE_THRESHOLD"), (1, u "FILL_THRESHOLD"), (1, u "ROTATE_THRESHOLD"), (1, u "COPY_THRESHOLD"), (1, u "REPLACEALL_THRESHOLD"), (1, u "INDEXOFSUBLIST_THRESHOLD"), (333, .class_ 851), (0, u "java/util/Collections$CheckedMap$CheckedEntrySet"), (0, .class_ 853), (0, u "java/util/Collections$CheckedMap$CheckedEntrySet$CheckedEntry"), (0, .class_ 855), (0, u "java/util/Collections$CheckedMap$CheckedEntrySet$1"), (0, .class_ 857), (0, u "java/util/Collections$CheckedList$1"), (0, .class_ 859), (0, u "java/util/Collections$CheckedCollection$1"), (0, .class_ 861), (0, u "java/util/Collections$UnmodifiableNavigableMap$EmptyNavigableMap"), (0, .class_ 863), (0, u "java/util/Collections$UnmodifiableMap$UnmodifiableEntrySet"), (0, .class_ 865), (0, u "java/util/Collections$UnmodifiableMap$UnmodifiableEntrySet$UnmodifiableEntry"), (0, .class_ 867), (0, u "java/util/Collections$UnmodifiableMap$UnmodifiableEntrySet$UnmodifiableEntrySetSpliterator"), (0, .class_ 869), (0, u "java/util/Collections$UnmodifiableMap$UnmodifiableEntrySet$1"), (0, .class_ 871), (0, u "java/util/Collections$UnmodifiableList$1"), (0, .class_ 873), (0, u "java/util/Collections$UnmodifiableNavigableSet$EmptyNavigableSet"), (0, .class_ 875), (0, u "java/util/Collections$UnmodifiableCollection$1")] 57

def k24m0 : Method := { name := "<init>", desc := "()V", sig := { parameters := [], returnType := none }, accessFlags := 2, code := none }
/-- java/util/Collections -/
def k24 : Class := { plain "java/util/Collections" (some 0) with
  accessFlags := 33
  interfaces := #[]
  cf := some (fileOf pool24 19 #[.nestMembers #[478, 473, 469, 434, 423, 417, 393, 390, 380, 497, 494, 491, 355, 350, 344, 338, 333, 328, 850, 852, 854, 320, 325, 856, 315, 310, 305, 300, 287, 858, 284, 281, 278, 268, 271, 265, 262, 256, 250, 245, 860, 237, 231, 223, 862, 864, 866, 868, 215, 212, 870, 206, 872, 198, 190, 182, 174, 166, 874, 442, 387, 384]] #[{ accessFlags := 2, nameIndex := 5, descriptorIndex := 6, attributes := #[] }] 33 2 #[] #[{ accessFlags := 26, nameIndex := 500, descriptorIndex := 501, attributes := #[] }, { accessFlags := 26, nameIndex := 504, descriptorIndex := 501, attributes := #[] }, { accessFlags := 26, nameIndex := 506, descriptorIndex := 501, attributes := #[] }, { accessFlags := 26, nameIndex := 508, descriptorIndex := 501, attributes := #[] }, { accessFlags := 26, nameIndex := 510, descriptorIndex := 501, attributes := #[] }, { accessFlags := 26, nameIndex := 512, descriptorIndex := 501, attributes := #[] }, { accessFlags := 26, nameIndex := 514, descriptorIndex := 501, attributes := #[] }, { accessFlags := 26, nameIndex := 516, descriptorIndex := 501, attributes := #[] }, { accessFlags := 10, nameIndex := 84, descriptorIndex := 85, attributes := #[] }, { accessFlags := 25, nameIndex := 362, descriptorIndex := 363, attributes := #[] }, { accessFlags := 25, nameIndex := 370, descriptorIndex := 371, attributes := #[] }, { accessFlags := 25, nameIndex := 374, descriptorIndex := 375, attributes := #[] }])
  fields := #[{ name := "BINARYSEARCH_THRESHOLD", type := .int, accessFlags := 26, slot := 0, constantValue := 0 }, { name := "REVERSE_THRESHOLD", type := .int, accessFlags := 26, slot := 1, constantValue := 0 }, { name := "SHUFFLE_THRESHOLD", type := .int, accessFlags := 26, slot := 2, constantValue := 0 }, { name := "FILL_THRESHOLD", type := .int, accessFlags := 26, slot := 3, constantValue := 0 }, { name := "ROTATE_THRESHOLD", type := .int, accessFlags := 26, slot := 4, constantValue := 0 }, { name := "COPY_THRESHOLD", type := .int, accessFlags := 26, slot := 5, constantValue := 0 }, { name := "REPLACEALL_THRESHOLD", type := .int, accessFlags := 26, slot := 6, constantValue := 0 }, { name := "INDEXOFSUBLIST_THRESHOLD", type := .int, accessFlags := 26, slot := 7, constantValue := 0 }, { name := "r", type := (.object "java/util/Random"), accessFlags := 10, slot := 8, constantValue := 0 }, { name := "EMPTY_SET", type := (.object "java/util/Set"), accessFlags := 25, slot := 9, constantValue := 0 }, { name := "EMPTY_LIST", type := (.object "java/util/List"), accessFlags := 25, slot := 10, constantValue := 0 }, { name := "EMPTY_MAP", type := (.object "java/util/Map"), accessFlags := 25, slot := 11, constantValue := 0 }]
  methods := #[k24m0]
  instanceTypes := #[]
  staticTypes := #[.int, .int, .int, .int, .int, .int, .int, .int, (.object "java/util/Random"), (.object "java/util/Set"), (.object "java/util/List"), (.object "java/util/Map")]
  resolved := Array.replicate 933 none
  statics := some 3 }

def pool25 : Array CpInfo := pool [(8, .class_ 10), (1, u "java/lang/Iterable"), (24, .class_ 36), (0, u "java/lang/Object")] 25

/-- java/lang/Iterable -/
def k25 : Class := { plain "java/lang/Iterable" (some 0) with
  accessFlags := 1537
  interfaces := #[]
  cf := some (fileOf pool25 8 #[] #[] 1537 35 #[] #[])
  fields := #[]
  methods := #[]
  instanceTypes := #[]
  staticTypes := #[]
  resolved := Array.replicate 62 none
  statics := none }

def pool26 : Array CpInfo := pool [(10, .class_ 12), (1, u "java/util/Collection"), (47, .class_ 61), (0, u "java/lang/Object"), (0, .class_ 63), (0, u "java/lang/Iterable")] 51

/-- java/util/Collection -/
def k26 : Class := { plain "java/util/Collection" (some 0) with
  accessFlags := 1537
  interfaces := #[25]
  cf := some (fileOf pool26 10 #[] #[] 1537 60 #[62] #[])
  fields := #[]
  methods := #[]
  instanceTypes := #[]
  staticTypes := #[]
  resolved := Array.replicate 115 none
  statics := none }

def pool27 : Array CpInfo := pool [(2, .class_ 4), (1, u "java/lang/Object"), (0, u "<init>"), (0, u "()V"), (1, .class_ 10), (1, u "java/util/AbstractCollection"), (66, .class_ 78), (0, u "java/util/Collection")] 81

def k27m0 : Method := { name := "<init>", desc := "()V", sig := { parameters := [], returnType := none }, accessFlags := 4, code := none }
/-- java/util/AbstractCollection -/
def k27 : Class := { plain "java/util/AbstractCollection" (some 0) with
  accessFlags := 1057
  interfaces := #[26]
  cf := some (fileOf pool27 8 #[] #[{ accessFlags := 4, nameIndex := 5, descriptorIndex := 6, attributes := #[] }] 1057 2 #[77] #[])
  fields := #[]
  methods := #[k27m0]
  instanceTypes := #[]
  staticTypes := #[]
  resolved := Array.replicate 160 none
  statics := none }

def pool28 : Array CpInfo := pool [(8, .class_ 10), (1, u "java/util/SequencedCollection"), (15, .class_ 27), (0, u "java/lang/Object"), (0, .class_ 29), (0, u "java/util/Collection")] 27

/-- java/util/SequencedCollection -/
def k28 : Class := { plain "java/util/SequencedCollection" (some 0) with
  accessFlags := 1537
  interfaces := #[26]
  cf := some (fileOf pool28 8 #[] #[] 1537 26 #[28] #[])
  fields := #[]
  methods := #[]
  instanceTypes := #[]
  staticTypes := #[]
  resolved := Array.replicate 57 none
  statics := none }

def pool29 : Array CpInfo := pool [(8, .class_ 10), (1, u "java/util/List"), (92, .class_ 104), (0, u "java/lang/Object"), (15, .class_ 121), (0, u "java/util/SequencedCollection")] 129

/-- java/util/List -/
def k29 : Class := { plain "java/util/List" (some 0) with
  accessFlags := 1537
  interfaces := #[28]
  cf := some (fileOf pool29 8 #[] #[] 1537 103 #[120] #[])
  fields := #[]
  methods := #[]
  instanceTypes := #[]
  staticTypes := #[]
  resolved := Array.replicate 251 none
  statics := none }

def pool30 : Array CpInfo := pool [(2, .class_ 4), (1, u "java/util/AbstractCollection"), (0, u "<init>"), (0, u "()V"), (1, .class_ 10), (1, u "java/util/AbstractList"), (0, u "modCount"), (0, u "I"), (64, .class_ 78), (0, u "java/util/AbstractList$Itr"), (3, .class_ 83), (0, u "java/util/AbstractList$ListItr"), (9, .class_ 94), (0, u "java/util/AbstractList$RandomAccessSubList"), (3, .class_ 99), (0, u "java/util/AbstractList$SubList"), (33, .class_ 134), (0, u "java/util/List"), (73, .class_ 209), (0, u "java/util/AbstractList$SubList$1"), (0, .class_ 211), (0, u "java/util/AbstractList$RandomAccessSpliterator")] 6

def k30m0 : Method := { name := "<init>", desc := "()V", sig := { parameters := [], returnType := none }, accessFlags := 4, code := none }
/-- java/util/AbstractList -/
def k30 : Class := { plain "java/util/AbstractList" (some 27) with
  accessFlags := 1057
  interfaces := #[29]
  cf := some (fileOf pool30 8 #[.nestMembers #[93, 98, 208, 210, 82, 77]] #[{ accessFlags := 4, nameIndex := 5, descriptorIndex := 6, attributes := #[] }] 1057 2 #[133] #[{ accessFlags := 132, nameIndex := 11, descriptorIndex := 12, attributes := #[] }])
  fields := #[{ name := "modCount", type := .int, accessFlags := 132, slot := 0, constantValue := 0 }]
  methods := #[k30m0]
  instanceTypes := #[.int]
  staticTypes := #[]
  resolved := Array.replicate 218 none
  statics := none }

def pool31 : Array CpInfo := pool [(1, .class_ 2), (0, u "java/util/RandomAccess"), (0, .class_ 4), (0, u "java/lang/Object")] 2

/-- java/util/RandomAccess -/
def k31 : Class := { plain "java/util/RandomAccess" (some 0) with
  accessFlags := 1537
  interfaces := #[]
  cf := some (fileOf pool31 1 #[] #[] 1537 3 #[] #[])
  fields := #[]
  methods := #[]
  instanceTypes := #[]
  staticTypes := #[]
  resolved := Array.replicate 7 none
  statics := none }

def pool32 : Array CpInfo := pool [(2, .class_ 4), (1, u "java/util/AbstractList"), (0, u "<init>"), (0, u "()V"), (1, .class_ 10), (1, u "java/util/Collections"), (54, .class_ 66), (0, u "java/util/Collections$EmptyList"), (0, .class_ 68), (0, u "java/util/RandomAccess"), (0, .class_ 70), (0, u "java/io/Serializable"), (0, u "serialVersionUID"), (0, u "J")] 77

def k32m0 : Method := { name := "<init>", desc := "()V", sig := { parameters := [], returnType := none }, accessFlags := 2, code := none }
/-- java/util/Collections$EmptyList -/
def k32 : Class := { plain "java/util/Collections$EmptyList" (some 30) with
  accessFlags := 32
  interfaces := #[31, 2]
  cf := some (fileOf pool32 65 #[.nestHost 8] #[{ accessFlags := 2, nameIndex := 5, descriptorIndex := 6, attributes := #[] }] 32 2 #[67, 69] #[{ accessFlags := 26, nameIndex := 71, descriptorIndex := 72, attributes := #[] }])
  fields := #[{ name := "serialVersionUID", type := .long, accessFlags := 26, slot := 0, constantValue := 0 }]
  methods := #[k32m0]
  instanceTypes := #[.int]
  staticTypes := #[.long]
  resolved := Array.replicate 150 none
  statics := none }

def pool33 : Array CpInfo := pool [(2, .class_ 4), (1, u "java/lang/StackTraceElement"), (0, u "<init>"), (2, .class_ 10), (1, u "java/lang/Object"), (0, u "()V"), (2, u "format"), (0, u "B"), (2, u "classLoaderName"), (0, u "Ljava/lang/String;"), (2, u "moduleName"), (2, u "moduleVersion"), (12, u "declaringClass"), (4, u "methodName"), (2, u "fileName"), (2, u "lineNumber"), (0, u "I"), (65, u "declaringClassObject"), (0, u "Ljava/lang/Class;"), (33, .class_ 153), (1, u "java/lang/StackTraceElement$HashedModules"), (17, .class_ 172), (0, u "java/io/Serializable"), (0, u "NATIVE_METHOD"), (1, u "UNKNOWN_SOURCE"), (2, u "BUILTIN_CLASS_LOADER"), (1, u "JDK_NON_UPGRADEABLE_MODULE"), (1, u "serialVersionUID"), (0, u "J")] 51

def k33m0 : Method := { name := "<init>", desc := "()V", sig := { parameters := [], returnType := none }, accessFlags := 2, code := none }
/-- java/lang/StackTraceElement -/
def k33 : Class := { plain "java/lang/StackTraceElement" (some 0) with
  accessFlags := 49
  interfaces := #[2]
  cf := some (fileOf pool33 2 #[.nestMembers #[151]] #[{ accessFlags := 2, nameIndex := 5, descriptorIndex := 11, attributes := #[] }] 49 8 #[171] #[{ accessFlags := 26, nameIndex := 173, descriptorIndex := 19, attributes := #[] }, { accessFlags := 26, nameIndex := 175, descriptorIndex := 19, attributes := #[] }, { accessFlags := 130, nameIndex := 116, descriptorIndex := 117, attributes := #[] }, { accessFlags := 2, nameIndex := 18, descriptorIndex := 19, attributes := #[] }, { accessFlags := 2, nameIndex := 22, descriptorIndex := 19, attributes := #[] }, { accessFlags := 2, nameIndex := 25, descriptorIndex := 19, attributes := #[] }, { accessFlags := 2, nameIndex := 38, descriptorIndex := 19, attributes := #[] }, { accessFlags := 2, nameIndex := 43, descriptorIndex := 19, attributes := #[] }, { accessFlags := 2, nameIndex := 46, descriptorIndex := 19, attributes := #[] }, { accessFlags := 2, nameIndex := 49, descriptorIndex := 50, attributes := #[] }, { accessFlags := 2, nameIndex := 14, descriptorIndex := 15, attributes := #[] }, { accessFlags := 26, nameIndex := 178, descriptorIndex := 15, attributes := #[] }, { accessFlags := 26, nameIndex := 180, descriptorIndex := 15, attributes := #[] }, { accessFlags := 26, nameIndex := 182, descriptorIndex := 183, attributes := #[] }])
  fields := #[{ name := "NATIVE_METHOD", type := (.object "java/lang/String"), accessFlags := 26, slot := 0, constantValue := 0 }, { name := "UNKNOWN_SOURCE", type := (.object "java/lang/String"), accessFlags := 26, slot := 1, constantValue := 0 }, { name := "declaringClassObject", type := (.object "java/lang/Class"), accessFlags := 130, slot := 0, constantValue := 0 }, { name := "classLoaderName", type := (.object "java/lang/String"), accessFlags := 2, slot := 1, constantValue := 0 }, { name := "moduleName", type := (.object "java/lang/String"), accessFlags := 2, slot := 2, constantValue := 0 }, { name := "moduleVersion", type := (.object "java/lang/String"), accessFlags := 2, slot := 3, constantValue := 0 }, { name := "declaringClass", type := (.object "java/lang/String"), accessFlags := 2, slot := 4, constantValue := 0 }, { name := "methodName", type := (.object "java/lang/String"), accessFlags := 2, slot := 5, constantValue := 0 }, { name := "fileName", type := (.object "java/lang/String"), accessFlags := 2, slot := 6, constantValue := 0 }, { name := "lineNumber", type := .int, accessFlags := 2, slot := 7, constantValue := 0 }, { name := "format", type := .byte, accessFlags := 2, slot := 8, constantValue := 0 }, { name := "BUILTIN_CLASS_LOADER", type := .byte, accessFlags := 26, slot := 2, constantValue := 0 }, { name := "JDK_NON_UPGRADEABLE_MODULE", type := .byte, accessFlags := 26, slot := 3, constantValue := 0 }, { name := "serialVersionUID", type := .long, accessFlags := 26, slot := 4, constantValue := 0 }]
  methods := #[k33m0]
  instanceTypes := #[(.object "java/lang/Class"), (.object "java/lang/String"), (.object "java/lang/String"), (.object "java/lang/String"), (.object "java/lang/String"), (.object "java/lang/String"), (.object "java/lang/String"), .int, .byte]
  staticTypes := #[(.object "java/lang/String"), (.object "java/lang/String"), .byte, .byte, .long]
  resolved := Array.replicate 235 none
  statics := none }

/-- the primitive byte -/
def k34 : Class := { plain "byte" none with kind := .primitive 'B', accessFlags := 0x411 }
/-- [B -/
def k35 : Class := { plain "[B" (some 0) with kind := .array 34 .byte, interfaces := #[21, 2], accessFlags := 1041 }

/-- the primitive char -/
def k36 : Class := { plain "char" none with kind := .primitive 'C', accessFlags := 0x411 }
/-- [C -/
def k37 : Class := { plain "[C" (some 0) with kind := .array 36 .char, interfaces := #[21, 2], accessFlags := 1041 }

/-- the primitive int -/
def k38 : Class := { plain "int" none with kind := .primitive 'I', accessFlags := 0x411 }
/-- [I -/
def k39 : Class := { plain "[I" (some 0) with kind := .array 38 .int, interfaces := #[21, 2], accessFlags := 1041 }

/-- [Ljava/lang/Object; -/
def k40 : Class := { plain "[Ljava/lang/Object;" (some 0) with kind := .array 0 (.object "java/lang/Object"), interfaces := #[21, 2], accessFlags := 1041 }

/-- [Ljava/lang/StackTraceElement; -/
def k41 : Class := { plain "[Ljava/lang/StackTraceElement;" (some 0) with kind := .array 33 (.object "java/lang/StackTraceElement"), interfaces := #[21, 2], accessFlags := 1041 }

/-- [Ljava/lang/Throwable; -/
def k42 : Class := { plain "[Ljava/lang/Throwable;" (some 0) with kind := .array 10 (.object "java/lang/Throwable"), interfaces := #[21, 2], accessFlags := 1041 }

def heap : Heap := #[{ cls := 7, slots := #[.long 0, .int 1, .null, .int 0, .null, .int 0, .int 0], vm := .statics 7 },
  { cls := 10, slots := #[.long 0, .ref 4, .ref 5, .null, .null, .null, .null, .ref 6, .int 1], vm := .statics 10 },
  { cls := 23, slots := #[.null, .null, .null], vm := .statics 23 },
  { cls := 24, slots := #[.int 0, .int 0, .int 0, .int 0, .int 0, .int 0, .int 0, .int 0, .null, .null, .ref 5, .null], vm := .statics 24 },
  { cls := 41, slots := #[], vm := .none },
  { cls := 32, slots := #[.int 0], vm := .none },
  { cls := 42, slots := #[], vm := .none }]
def classes : Array Class := #[k0, k1, k2, k3, k4, k5, k6, k7, k8, k9, k10, k11, k12, k13, k14, k15, k16, k17, k18, k19, k20, k21, k22, k23, k24, k25, k26, k27, k28, k29, k30, k31, k32, k33, k34, k35, k36, k37, k38, k39, k40, k41, k42]
def interned : List (Array UInt16 × Addr) := []
def slotsUsed : Nat := 32
def theMethod : MethodId := ⟨1, 2⟩
def args0 : Array Value := #[.int 5, .int 6, .int 7]
def aboutOver (below : List Frame) : State where
  vm := { classes := classes, interned := interned.toArray }
  heap := heap
  slotsUsed := slotsUsed
  threads := #[{ frames := .invoking theMethod args0 :: below }]
def below0 : List Frame := [.native { method := ⟨0, 0⟩, args := #[] }]
def about1 : State := aboutOver below0
def p0 : Program := .bare "" "" ""
def e0 : Env := launch0.env 0 0 0
theorem w_frames : about1.frames = Frame.invoking theMethod args0 :: below0 := rfl
set_option maxRecDepth 65536 in
theorem w_args : argsFit about1.vm theMethod args0 = true := by decide +kernel
set_option maxRecDepth 65536 in
theorem w_heap : heapFits about1 = true := by decide +kernel
set_option maxRecDepth 65536 in
theorem w_runnable : about1.curStatus? = some .runnable := by decide +kernel
set_option maxRecDepth 65536 in
theorem w_alone : about1.alone = true := by decide +kernel
set_option maxRecDepth 65536 in
theorem w_named : about1.methodNamed? x = some theMethod := by decide +kernel
set_option maxRecDepth 65536 in
theorem w_hears : about1.hears theMethod below0 = true := by decide +kernel
set_option maxRecDepth 65536 in
theorem w_ripe : about1.ripe theMethod args0 below0 = true := by decide +kernel
theorem w_running : about1.status = .running := rfl
set_option maxRecDepth 65536 in
theorem w_room : about1.hasRoom e0.platform room_1 = true :=
  launch0.hasRoom_least _ room_1 (by decide +kernel) (by decide +kernel) (by decide +kernel) (by decide +kernel) (by decide +kernel) (by decide +kernel)
theorem allAtoms_all (ts : List Jvm.Cond) (a : Array Jvm.Value) (st : Jvm.State) : (allAtoms ts).before a st = ts.all (fun c => c.before a st) := by
  induction ts with
  | nil => rfl
  | cons c t ih =>
    show (Jvm.Cond.and c (allAtoms t)).before a st = _
    rw [Jvm.Cond.before_and, ih, List.all_cons]
def words1 : List Jvm.Cond := Jvm.Cond.code x code maxLocals ret :: tables_1
/-- a 'code' word, met by the world's own term for the bytes: nothing is compared byte by byte -/
theorem code_word {y : MethodName} {bytes : ByteArray} {mx : Nat} {rt : Option FieldType} {a : Array Value} {s : State} {m : MethodId} {meth : Method} {c : Code} (h1 : s.methodNamed? y = some m) (h2 : s.vm.method? m = some meth) (h3 : meth.code = some c) (h4 : c.code = bytes)
    (h5 : (c.maxLocals == mx && c.exceptionTable.isEmpty && decide (c.maxStack ≤ mostOperands) && decide (meth.sig.returnType = rt) && !meth.locks && decide (parseMethodDescriptor y.desc = some meth.sig)) = true) : (Jvm.Cond.code y bytes mx rt).before a s = true := by
  simp only [Bool.and_eq_true, beq_iff_eq, Bool.not_eq_true', decide_eq_true_eq] at h5
  obtain ⟨⟨⟨⟨⟨g1, g2⟩, g3⟩, g4⟩, g5⟩, g6⟩ := h5
  simp [Cond.before, Cond.holds, Cond.value, h1, h2, h3, h4, g1, g2, g3, g4, g5, g6]
def isCode : Jvm.Cond → Bool
  | .code _ _ _ _ => true
  | _ => false
theorem all_split {L : List Jvm.Cond} {P : Jvm.Cond → Bool} (h1 : L.all (fun c => isCode c || P c) = true) (h2 : ∀ c ∈ L.filter isCode, P c = true) : L.all P = true := by
  refine List.all_eq_true.mpr fun c hc => ?_
  have h := List.all_eq_true.mp h1 c hc
  rcases Bool.eq_false_or_eq_true (isCode c) with hi | hi
  · exact h2 c (List.mem_filter.mpr ⟨hc, hi⟩)
  · simpa [hi] using h
set_option maxRecDepth 65536 in
theorem w_c0 : (Jvm.Cond.code x code maxLocals ret).before args0 about1 = true := code_word (m := ⟨1, 2⟩) (meth := k1m2) (c := k1c2) (by decide +kernel) rfl rfl rfl (by decide +kernel)
set_option maxRecDepth 65536 in
theorem w_c1 : (Jvm.Cond.code ({ cls := "com/example/breakwater/breakwater/InFlightLoadsAskedForOwnKeyPinLaw", name := "str", desc := "(I)Ljava/lang/String;" } : Jvm.MethodName) method_2_code (5 : Nat) (Option.some (Jvm.ClassFile.FieldType.object "java/lang/String"))).before args0 about1 = true := code_word (m := ⟨1, 1⟩) (meth := k1m1) (c := k1c1) (by decide +kernel) rfl rfl rfl (by decide +kernel)
set_option maxRecDepth 65536 in
theorem w_c2 : (Jvm.Cond.code ({ cls := "java/lang/String", name := "<init>", desc := "([C)V" } : Jvm.MethodName) jdk_42_method_3_code (2 : Nat) (Option.none : Option Jvm.ClassFile.FieldType)).before args0 about1 = true := code_word (m := ⟨7, 1⟩) (meth := k7m1) (c := k7c1) (by decide +kernel) rfl rfl rfl (by decide +kernel)
set_option maxRecDepth 65536 in
theorem w_c3 : (Jvm.Cond.code ({ cls := "java/lang/String", name := "<init>", desc := "([CIILjava/lang/Void;)V" } : Jvm.MethodName) jdk_42_method_149_code (6 : Nat) (Option.none : Option Jvm.ClassFile.FieldType)).before args0 about1 = true := code_word (m := ⟨7, 6⟩) (meth := k7m6) (c := k7c6) (by decide +kernel) rfl rfl rfl (by decide +kernel)
set_option maxRecDepth 65536 in
theorem w_c4 : (Jvm.Cond.code ({ cls := "java/lang/Object", name := "<init>", desc := "()V" } : Jvm.MethodName) object_method_1_code (1 : Nat) (Option.none : Option Jvm.ClassFile.FieldType)).before args0 about1 = true := code_word (m := ⟨0, 0⟩) (meth := k0m0) (c := k0c0) (by decide +kernel) rfl rfl rfl (by decide +kernel)
set_option maxRecDepth 65536 in
theorem w_c5 : (Jvm.Cond.code ({ cls := "java/lang/StringUTF16", name := "compress", desc := "([CII)[B" } : Jvm.MethodName) jdk_52_method_16_code (6 : Nat) (Option.some (Jvm.ClassFile.FieldType.array Jvm.ClassFile.FieldType.byte))).before args0 about1 = true := code_word (m := ⟨8, 2⟩) (meth := k8m2) (c := k8c2) (by decide +kernel) rfl rfl rfl (by decide +kernel)
set_option maxRecDepth 65536 in
theorem w_c6 : (Jvm.Cond.code ({ cls := "java/lang/StringUTF16", name := "compress", desc := "([CI[BII)I" } : Jvm.MethodName) jdk_52_method_21_code (7 : Nat) (Option.some Jvm.ClassFile.FieldType.int)).before args0 about1 = true := code_word (m := ⟨8, 3⟩) (meth := k8m3) (c := k8c3) (by decide +kernel) rfl rfl rfl (by decide +kernel)
set_option maxRecDepth 65536 in
theorem w_c7 : (Jvm.Cond.code ({ cls := "java/lang/StringUTF16", name := "coderFromArrayLen", desc := "([BI)B" } : Jvm.MethodName) jdk_52_method_15_code (2 : Nat) (Option.some Jvm.ClassFile.FieldType.byte)).before args0 about1 = true := code_word (m := ⟨8, 1⟩) (meth := k8m1) (c := k8c1) (by decide +kernel) rfl rfl rfl (by decide +kernel)
set_option maxRecDepth 65536 in
theorem w_c8 : (Jvm.Cond.code ({ cls := "com/example/breakwater/breakwater/InFlightLoads", name := "askedForOwnKey", desc := "(Ljava/lang/String;Ljava/lang/String;)Ljava/lang/IllegalStateException;" } : Jvm.MethodName) prog_2_method_18_code (2 : Nat) (Option.some (Jvm.ClassFile.FieldType.object "java/lang/IllegalStateException"))).before args0 about1 = true := code_word (m := ⟨9, 0⟩) (meth := k9m0) (c := k9c0) (by decide +kernel) rfl rfl rfl (by decide +kernel)
set_option maxRecDepth 65536 in
theorem w_c9 : (Jvm.Cond.code ({ cls := "java/lang/StringBuilder", name := "<init>", desc := "()V" } : Jvm.MethodName) jdk_67_method_1_code (1 : Nat) (Option.none : Option Jvm.ClassFile.FieldType)).before args0 about1 = true := code_word (m := ⟨16, 0⟩) (meth := k16m0) (c := k16c0) (by decide +kernel) rfl rfl rfl (by decide +kernel)
set_option maxRecDepth 65536 in
theorem w_c10 : (Jvm.Cond.code ({ cls := "java/lang/AbstractStringBuilder", name := "<init>", desc := "(I)V" } : Jvm.MethodName) jdk_68_method_2_code (2 : Nat) (Option.none : Option Jvm.ClassFile.FieldType)).before args0 about1 = true := code_word (m := ⟨15, 1⟩) (meth := k15m1) (c := k15c1) (by decide +kernel) rfl rfl rfl (by decide +kernel)
set_option maxRecDepth 65536 in
theorem w_c11 : (Jvm.Cond.code ({ cls := "java/lang/StringBuilder", name := "append", desc := "(Ljava/lang/String;)Ljava/lang/StringBuilder;" } : Jvm.MethodName) jdk_67_method_7_code (2 : Nat) (Option.some (Jvm.ClassFile.FieldType.object "java/lang/StringBuilder"))).before args0 about1 = true := code_word (m := ⟨16, 1⟩) (meth := k16m1) (c := k16c1) (by decide +kernel) rfl rfl rfl (by decide +kernel)
set_option maxRecDepth 65536 in
theorem w_c12 : (Jvm.Cond.code ({ cls := "java/lang/AbstractStringBuilder", name := "append", desc := "(Ljava/lang/String;)Ljava/lang/AbstractStringBuilder;" } : Jvm.MethodName) jdk_68_method_22_code (3 : Nat) (Option.some (Jvm.ClassFile.FieldType.object "java/lang/AbstractStringBuilder"))).before args0 about1 = true := code_word (m := ⟨15, 5⟩) (meth := k15m5) (c := k15c5) (by decide +kernel) rfl rfl rfl (by decide +kernel)
set_option maxRecDepth 65536 in
theorem w_c13 : (Jvm.Cond.code ({ cls := "java/lang/String", name := "length", desc := "()I" } : Jvm.MethodName) jdk_42_method_54_code (1 : Nat) (Option.some Jvm.ClassFile.FieldType.int)).before args0 about1 = true := code_word (m := ⟨7, 3⟩) (meth := k7m3) (c := k7c3) (by decide +kernel) rfl rfl rfl (by decide +kernel)
set_option maxRecDepth 65536 in
theorem w_c14 : (Jvm.Cond.code ({ cls := "java/lang/String", name := "coder", desc := "()B" } : Jvm.MethodName) jdk_42_method_152_code (1 : Nat) (Option.some Jvm.ClassFile.FieldType.byte)).before args0 about1 = true := code_word (m := ⟨7, 8⟩) (meth := k7m8) (c := k7c8) (by decide +kernel) rfl rfl rfl (by decide +kernel)
set_option maxRecDepth 65536 in
theorem w_c15 : (Jvm.Cond.code ({ cls := "java/lang/AbstractStringBuilder", name := "ensureCapacityInternal", desc := "(I)V" } : Jvm.MethodName) jdk_68_method_9_code (3 : Nat) (Option.none : Option Jvm.ClassFile.FieldType)).before args0 about1 = true := code_word (m := ⟨15, 3⟩) (meth := k15m3) (c := k15c3) (by decide +kernel) rfl rfl rfl (by decide +kernel)
set_option maxRecDepth 65536 in
theorem w_c16 : (Jvm.Cond.code ({ cls := "java/lang/AbstractStringBuilder", name := "newCapacity", desc := "(I)I" } : Jvm.MethodName) jdk_68_method_10_code (6 : Nat) (Option.some Jvm.ClassFile.FieldType.int)).before args0 about1 = true := code_word (m := ⟨15, 4⟩) (meth := k15m4) (c := k15c4) (by decide +kernel) rfl rfl rfl (by decide +kernel)
set_option maxRecDepth 65536 in
theorem w_c17 : (Jvm.Cond.code ({ cls := "jdk/internal/util/ArraysSupport", name := "newLength", desc := "(III)I" } : Jvm.MethodName) jdk_48_method_27_code (4 : Nat) (Option.some Jvm.ClassFile.FieldType.int)).before args0 about1 = true := code_word (m := ⟨17, 1⟩) (meth := k17m1) (c := k17c1) (by decide +kernel) rfl rfl rfl (by decide +kernel)
set_option maxRecDepth 65536 in
theorem w_c18 : (Jvm.Cond.code ({ cls := "java/lang/Math", name := "max", desc := "(II)I" } : Jvm.MethodName) jdk_29_method_65_code (2 : Nat) (Option.some Jvm.ClassFile.FieldType.int)).before args0 about1 = true := code_word (m := ⟨18, 1⟩) (meth := k18m1) (c := k18c1) (by decide +kernel) rfl rfl rfl (by decide +kernel)
set_option maxRecDepth 65536 in
theorem w_c19 : (Jvm.Cond.code ({ cls := "java/util/Arrays", name := "copyOf", desc := "([BI)[B" } : Jvm.MethodName) jdk_65_method_121_code (3 : Nat) (Option.some (Jvm.ClassFile.FieldType.array Jvm.ClassFile.FieldType.byte))).before args0 about1 = true := code_word (m := ⟨19, 1⟩) (meth := k19m1) (c := k19c1) (by decide +kernel) rfl rfl rfl (by decide +kernel)
set_option maxRecDepth 65536 in
theorem w_c20 : (Jvm.Cond.code ({ cls := "java/lang/Math", name := "min", desc := "(II)I" } : Jvm.MethodName) jdk_29_method_69_code (2 : Nat) (Option.some Jvm.ClassFile.FieldType.int)).before args0 about1 = true := code_word (m := ⟨18, 2⟩) (meth := k18m2) (c := k18c2) (by decide +kernel) rfl rfl rfl (by decide +kernel)
set_option maxRecDepth 65536 in
theorem w_c21 : (Jvm.Cond.code ({ cls := "java/lang/AbstractStringBuilder", name := "putStringAt", desc := "(ILjava/lang/String;)V" } : Jvm.MethodName) jdk_68_method_73_code (3 : Nat) (Option.none : Option Jvm.ClassFile.FieldType)).before args0 about1 = true := code_word (m := ⟨15, 9⟩) (meth := k15m9) (c := k15c9) (by decide +kernel) rfl rfl rfl (by decide +kernel)
set_option maxRecDepth 65536 in
theorem w_c22 : (Jvm.Cond.code ({ cls := "java/lang/AbstractStringBuilder", name := "inflateIfNeededFor", desc := "(Ljava/lang/String;)V" } : Jvm.MethodName) jdk_68_method_71_code (2 : Nat) (Option.none : Option Jvm.ClassFile.FieldType)).before args0 about1 = true := code_word (m := ⟨15, 8⟩) (meth := k15m8) (c := k15c8) (by decide +kernel) rfl rfl rfl (by decide +kernel)
set_option maxRecDepth 65536 in
theorem w_c23 : (Jvm.Cond.code ({ cls := "java/lang/String", name := "getBytes", desc := "([BIB)V" } : Jvm.MethodName) jdk_42_method_147_code (4 : Nat) (Option.none : Option Jvm.ClassFile.FieldType)).before args0 about1 = true := code_word (m := ⟨7, 5⟩) (meth := k7m5) (c := k7c5) (by decide +kernel) rfl rfl rfl (by decide +kernel)
set_option maxRecDepth 65536 in
theorem w_c24 : (Jvm.Cond.code ({ cls := "java/lang/StringBuilder", name := "toString", desc := "()Ljava/lang/String;" } : Jvm.MethodName) jdk_67_method_42_code (1 : Nat) (Option.some (Jvm.ClassFile.FieldType.object "java/lang/String"))).before args0 about1 = true := code_word (m := ⟨16, 2⟩) (meth := k16m2) (c := k16c2) (by decide +kernel) rfl rfl rfl (by decide +kernel)
set_option maxRecDepth 65536 in
theorem w_c25 : (Jvm.Cond.code ({ cls := "java/lang/String", name := "<init>", desc := "(Ljava/lang/StringBuilder;)V" } : Jvm.MethodName) jdk_42_method_53_code (2 : Nat) (Option.none : Option Jvm.ClassFile.FieldType)).before args0 about1 = true := code_word (m := ⟨7, 2⟩) (meth := k7m2) (c := k7c2) (by decide +kernel) rfl rfl rfl (by decide +kernel)
set_option maxRecDepth 65536 in
theorem w_c26 : (Jvm.Cond.code ({ cls := "java/lang/String", name := "<init>", desc := "(Ljava/lang/AbstractStringBuilder;Ljava/lang/Void;)V" } : Jvm.MethodName) jdk_42_method_150_code (5 : Nat) (Option.none : Option Jvm.ClassFile.FieldType)).before args0 about1 = true := code_word (m := ⟨7, 7⟩) (meth := k7m7) (c := k7c7) (by decide +kernel) rfl rfl rfl (by decide +kernel)
set_option maxRecDepth 65536 in
theorem w_c27 : (Jvm.Cond.code ({ cls := "java/lang/AbstractStringBuilder", name := "getValue", desc := "()[B" } : Jvm.MethodName) jdk_68_method_64_code (1 : Nat) (Option.some (Jvm.ClassFile.FieldType.array Jvm.ClassFile.FieldType.byte))).before args0 about1 = true := code_word (m := ⟨15, 6⟩) (meth := k15m6) (c := k15c6) (by decide +kernel) rfl rfl rfl (by decide +kernel)
set_option maxRecDepth 65536 in
theorem w_c28 : (Jvm.Cond.code ({ cls := "java/lang/StringBuilder", name := "length", desc := "()I" } : Jvm.MethodName) jdk_67_method_93_code (1 : Nat) (Option.some Jvm.ClassFile.FieldType.int)).before args0 about1 = true := code_word (m := ⟨16, 3⟩) (meth := k16m3) (c := k16c3) (by decide +kernel) rfl rfl rfl (by decide +kernel)
set_option maxRecDepth 65536 in
theorem w_c29 : (Jvm.Cond.code ({ cls := "java/lang/AbstractStringBuilder", name := "length", desc := "()I" } : Jvm.MethodName) jdk_68_method_6_code (1 : Nat) (Option.some Jvm.ClassFile.FieldType.int)).before args0 about1 = true := code_word (m := ⟨15, 2⟩) (meth := k15m2) (c := k15c2) (by decide +kernel) rfl rfl rfl (by decide +kernel)
set_option maxRecDepth 65536 in
theorem w_c30 : (Jvm.Cond.code ({ cls := "java/lang/AbstractStringBuilder", name := "isLatin1", desc := "()Z" } : Jvm.MethodName) jdk_68_method_68_code (1 : Nat) (Option.some Jvm.ClassFile.FieldType.boolean)).before args0 about1 = true := code_word (m := ⟨15, 7⟩) (meth := k15m7) (c := k15c7) (by decide +kernel) rfl rfl rfl (by decide +kernel)
set_option maxRecDepth 65536 in
theorem w_c31 : (Jvm.Cond.code ({ cls := "java/util/Arrays", name := "copyOfRange", desc := "([BII)[B" } : Jvm.MethodName) jdk_65_method_132_code (3 : Nat) (Option.some (Jvm.ClassFile.FieldType.array Jvm.ClassFile.FieldType.byte))).before args0 about1 = true := code_word (m := ⟨19, 2⟩) (meth := k19m2) (c := k19c2) (by decide +kernel) rfl rfl rfl (by decide +kernel)
set_option maxRecDepth 65536 in
theorem w_c32 : (Jvm.Cond.code ({ cls := "java/lang/IllegalStateException", name := "<init>", desc := "(Ljava/lang/String;)V" } : Jvm.MethodName) jdk_60_method_2_code (2 : Nat) (Option.none : Option Jvm.ClassFile.FieldType)).before args0 about1 = true := code_word (m := ⟨13, 1⟩) (meth := k13m1) (c := k13c1) (by decide +kernel) rfl rfl rfl (by decide +kernel)
set_option maxRecDepth 65536 in
theorem w_c33 : (Jvm.Cond.code ({ cls := "java/lang/RuntimeException", name := "<init>", desc := "(Ljava/lang/String;)V" } : Jvm.MethodName) jdk_58_method_2_code (2 : Nat) (Option.none : Option Jvm.ClassFile.FieldType)).before args0 about1 = true := code_word (m := ⟨12, 1⟩) (meth := k12m1) (c := k12c1) (by decide +kernel) rfl rfl rfl (by decide +kernel)
set_option maxRecDepth 65536 in
theorem w_c34 : (Jvm.Cond.code ({ cls := "java/lang/Exception", name := "<init>", desc := "(Ljava/lang/String;)V" } : Jvm.MethodName) jdk_59_method_2_code (2 : Nat) (Option.none : Option Jvm.ClassFile.FieldType)).before args0 about1 = true := code_word (m := ⟨11, 1⟩) (meth := k11m1) (c := k11c1) (by decide +kernel) rfl rfl rfl (by decide +kernel)
set_option maxRecDepth 65536 in
theorem w_c35 : (Jvm.Cond.code ({ cls := "java/lang/Throwable", name := "<init>", desc := "(Ljava/lang/String;)V" } : Jvm.MethodName) jdk_78_method_2_code (2 : Nat) (Option.none : Option Jvm.ClassFile.FieldType)).before args0 about1 = true := code_word (m := ⟨10, 1⟩) (meth := k10m1) (c := k10c1) (by decide +kernel) rfl rfl rfl (by decide +kernel)
set_option maxRecDepth 65536 in
theorem w_c36 : (Jvm.Cond.code ({ cls := "java/lang/Throwable", name := "<init>", desc := "()V" } : Jvm.MethodName) jdk_78_method_1_code (1 : Nat) (Option.none : Option Jvm.ClassFile.FieldType)).before args0 about1 = true := code_word (m := ⟨10, 0⟩) (meth := k10m0) (c := k10c0) (by decide +kernel) rfl rfl rfl (by decide +kernel)
set_option maxRecDepth 65536 in
theorem w_c37 : (Jvm.Cond.code ({ cls := "java/lang/Throwable", name := "getMessage", desc := "()Ljava/lang/String;" } : Jvm.MethodName) jdk_78_method_6_code (1 : Nat) (Option.some (Jvm.ClassFile.FieldType.object "java/lang/String"))).before args0 about1 = true := code_word (m := ⟨10, 2⟩) (meth := k10m2) (c := k10c2) (by decide +kernel) rfl rfl rfl (by decide +kernel)
set_option maxRecDepth 65536 in
theorem w_c38 : (Jvm.Cond.code ({ cls := "java/lang/String", name := "charAt", desc := "(I)C" } : Jvm.MethodName) jdk_42_method_56_code (2 : Nat) (Option.some Jvm.ClassFile.FieldType.char)).before args0 about1 = true := code_word (m := ⟨7, 4⟩) (meth := k7m4) (c := k7c4) (by decide +kernel) rfl rfl rfl (by decide +kernel)
set_option maxRecDepth 65536 in
theorem w_c39 : (Jvm.Cond.code ({ cls := "java/lang/String", name := "isLatin1", desc := "()Z" } : Jvm.MethodName) jdk_42_method_154_code (1 : Nat) (Option.some Jvm.ClassFile.FieldType.boolean)).before args0 about1 = true := code_word (m := ⟨7, 9⟩) (meth := k7m9) (c := k7c9) (by decide +kernel) rfl rfl rfl (by decide +kernel)
set_option maxRecDepth 65536 in
theorem w_c40 : (Jvm.Cond.code ({ cls := "java/lang/StringLatin1", name := "charAt", desc := "([BI)C" } : Jvm.MethodName) jdk_43_method_2_code (2 : Nat) (Option.some Jvm.ClassFile.FieldType.char)).before args0 about1 = true := code_word (m := ⟨22, 1⟩) (meth := k22m1) (c := k22c1) (by decide +kernel) rfl rfl rfl (by decide +kernel)
set_option maxRecDepth 65536 in
theorem w_c41 : (Jvm.Cond.code ({ cls := "java/lang/String", name := "checkIndex", desc := "(II)V" } : Jvm.MethodName) jdk_42_method_155_code (2 : Nat) (Option.none : Option Jvm.ClassFile.FieldType)).before args0 about1 = true := code_word (m := ⟨7, 10⟩) (meth := k7m10) (c := k7c10) (by decide +kernel) rfl rfl rfl (by decide +kernel)
set_option maxRecDepth 65536 in
theorem w_c42 : (Jvm.Cond.code ({ cls := "jdk/internal/util/Preconditions", name := "checkIndex", desc := "(IILjava/util/function/BiFunction;)I" } : Jvm.MethodName) jdk_41_method_11_code (3 : Nat) (Option.some Jvm.ClassFile.FieldType.int)).before args0 about1 = true := code_word (m := ⟨23, 1⟩) (meth := k23m1) (c := k23c1) (by decide +kernel) rfl rfl rfl (by decide +kernel)
def codes1 : List Jvm.Cond := [Jvm.Cond.code x code maxLocals ret, Jvm.Cond.code ({ cls := "com/example/breakwater/breakwater/InFlightLoadsAskedForOwnKeyPinLaw", name := "str", desc := "(I)Ljava/lang/String;" } : Jvm.MethodName) method_2_code (5 : Nat) (Option.some (Jvm.ClassFile.FieldType.object "java/lang/String")), Jvm.Cond.code ({ cls := "java/lang/String", name := "<init>", desc := "([C)V" } : Jvm.MethodName) jdk_42_method_3_code (2 : Nat) (Option.none : Option Jvm.ClassFile.FieldType), Jvm.Cond.code ({ cls := "java/lang/String", name := "<init>", desc := "([CIILjava/lang/Void;)V" } : Jvm.MethodName) jdk_42_method_149_code (6 : Nat) (Option.none : Option Jvm.ClassFile.FieldType), Jvm.Cond.code ({ cls := "java/lang/Object", name := "<init>", desc := "()V" } : Jvm.MethodName) object_method_1_code (1 : Nat) (Option.none : Option Jvm.ClassFile.FieldType), Jvm.Cond.code ({ cls := "java/lang/StringUTF16", name := "compress", desc := "([CII)[B" } : Jvm.MethodName) jdk_52_method_16_code (6 : Nat) (Option.some (Jvm.ClassFile.FieldType.array Jvm.ClassFile.FieldType.byte)), Jvm.Cond.code ({ cls := "java/lang/StringUTF16", name := "compress", desc := "([CI[BII)I" } : Jvm.MethodName) jdk_52_method_21_code (7 : Nat) (Option.some Jvm.ClassFile.FieldType.int), Jvm.Cond.code ({ cls := "java/lang/StringUTF16", name := "coderFromArrayLen", desc := "([BI)B" } : Jvm.MethodName) jdk_52_method_15_code (2 : Nat) (Option.some Jvm.ClassFile.FieldType.byte), Jvm.Cond.code ({ cls := "com/example/breakwater/breakwater/InFlightLoads", name := "askedForOwnKey", desc := "(Ljava/lang/String;Ljava/lang/String;)Ljava/lang/IllegalStateException;" } : Jvm.MethodName) prog_2_method_18_code (2 : Nat) (Option.some (Jvm.ClassFile.FieldType.object "java/lang/IllegalStateException")), Jvm.Cond.code ({ cls := "java/lang/StringBuilder", name := "<init>", desc := "()V" } : Jvm.MethodName) jdk_67_method_1_code (1 : Nat) (Option.none : Option Jvm.ClassFile.FieldType), Jvm.Cond.code ({ cls := "java/lang/AbstractStringBuilder", name := "<init>", desc := "(I)V" } : Jvm.MethodName) jdk_68_method_2_code (2 : Nat) (Option.none : Option Jvm.ClassFile.FieldType), Jvm.Cond.code ({ cls := "java/lang/StringBuilder", name := "append", desc := "(Ljava/lang/String;)Ljava/lang/StringBuilder;" } : Jvm.MethodName) jdk_67_method_7_code (2 : Nat) (Option.some (Jvm.ClassFile.FieldType.object "java/lang/StringBuilder")), Jvm.Cond.code ({ cls := "java/lang/AbstractStringBuilder", name := "append", desc := "(Ljava/lang/String;)Ljava/lang/AbstractStringBuilder;" } : Jvm.MethodName) jdk_68_method_22_code (3 : Nat) (Option.some (Jvm.ClassFile.FieldType.object "java/lang/AbstractStringBuilder")), Jvm.Cond.code ({ cls := "java/lang/String", name := "length", desc := "()I" } : Jvm.MethodName) jdk_42_method_54_code (1 : Nat) (Option.some Jvm.ClassFile.FieldType.int), Jvm.Cond.code ({ cls := "java/lang/String", name := "coder", desc := "()B" } : Jvm.MethodName) jdk_42_method_152_code (1 : Nat) (Option.some Jvm.ClassFile.FieldType.byte), Jvm.Cond.code ({ cls := "java/lang/AbstractStringBuilder", name := "ensureCapacityInternal", desc := "(I)V" } : Jvm.MethodName) jdk_68_method_9_code (3 : Nat) (Option.none : Option Jvm.ClassFile.FieldType), Jvm.Cond.code ({ cls := "java/lang/AbstractStringBuilder", name := "newCapacity", desc := "(I)I" } : Jvm.MethodName) jdk_68_method_10_code (6 : Nat) (Option.some Jvm.ClassFile.FieldType.int), Jvm.Cond.code ({ cls := "jdk/internal/util/ArraysSupport", name := "newLength", desc := "(III)I" } : Jvm.MethodName) jdk_48_method_27_code (4 : Nat) (Option.some Jvm.ClassFile.FieldType.int), Jvm.Cond.code ({ cls := "java/lang/Math", name := "max", desc := "(II)I" } : Jvm.MethodName) jdk_29_method_65_code (2 : Nat) (Option.some Jvm.ClassFile.FieldType.int), Jvm.Cond.code ({ cls := "java/util/Arrays", name := "copyOf", desc := "([BI)[B" } : Jvm.MethodName) jdk_65_method_121_code (3 : Nat) (Option.some (Jvm.ClassFile.FieldType.array Jvm.ClassFile.FieldType.byte)), Jvm.Cond.code ({ cls := "java/lang/Math", name := "min", desc := "(II)I" } : Jvm.MethodName) jdk_29_method_69_code (2 : Nat) (Option.some Jvm.ClassFile.FieldType.int), Jvm.Cond.code ({ cls := "java/lang/AbstractStringBuilder", name := "putStringAt", desc := "(ILjava/lang/String;)V" } : Jvm.MethodName) jdk_68_method_73_code (3 : Nat) (Option.none : Option Jvm.ClassFile.FieldType), Jvm.Cond.code ({ cls := "java/lang/AbstractStringBuilder", name := "inflateIfNeededFor", desc := "(Ljava/lang/String;)V" } : Jvm.MethodName) jdk_68_method_71_code (2 : Nat) (Option.none : Option Jvm.ClassFile.FieldType), Jvm.Cond.code ({ cls := "java/lang/String", name := "getBytes", desc := "([BIB)V" } : Jvm.MethodName) jdk_42_method_147_code (4 : Nat) (Option.none : Option Jvm.ClassFile.FieldType), Jvm.Cond.code ({ cls := "java/lang/StringBuilder", name := "toString", desc := "()Ljava/lang/String;" } : Jvm.MethodName) jdk_67_method_42_code (1 : Nat) (Option.some (Jvm.ClassFile.FieldType.object "java/lang/String")), Jvm.Cond.code ({ cls := "java/lang/String", name := "<init>", desc := "(Ljava/lang/StringBuilder;)V" } : Jvm.MethodName) jdk_42_method_53_code (2 : Nat) (Option.none : Option Jvm.ClassFile.FieldType), Jvm.Cond.code ({ cls := "java/lang/String", name := "<init>", desc := "(Ljava/lang/AbstractStringBuilder;Ljava/lang/Void;)V" } : Jvm.MethodName) jdk_42_method_150_code (5 : Nat) (Option.none : Option Jvm.ClassFile.FieldType), Jvm.Cond.code ({ cls := "java/lang/AbstractStringBuilder", name := "getValue", desc := "()[B" } : Jvm.MethodName) jdk_68_method_64_code (1 : Nat) (Option.some (Jvm.ClassFile.FieldType.array Jvm.ClassFile.FieldType.byte)), Jvm.Cond.code ({ cls := "java/lang/StringBuilder", name := "length", desc := "()I" } : Jvm.MethodName) jdk_67_method_93_code (1 : Nat) (Option.some Jvm.ClassFile.FieldType.int), Jvm.Cond.code ({ cls := "java/lang/AbstractStringBuilder", name := "length", desc := "()I" } : Jvm.MethodName) jdk_68_method_6_code (1 : Nat) (Option.some Jvm.ClassFile.FieldType.int), Jvm.Cond.code ({ cls := "java/lang/AbstractStringBuilder", name := "isLatin1", desc := "()Z" } : Jvm.MethodName) jdk_68_method_68_code (1 : Nat) (Option.some Jvm.ClassFile.FieldType.boolean), Jvm.Cond.code ({ cls := "java/util/Arrays", name := "copyOfRange", desc := "([BII)[B" } : Jvm.MethodName) jdk_65_method_132_code (3 : Nat) (Option.some (Jvm.ClassFile.FieldType.array Jvm.ClassFile.FieldType.byte)), Jvm.Cond.code ({ cls := "java/lang/IllegalStateException", name := "<init>", desc := "(Ljava/lang/String;)V" } : Jvm.MethodName) jdk_60_method_2_code (2 : Nat) (Option.none : Option Jvm.ClassFile.FieldType), Jvm.Cond.code ({ cls := "java/lang/RuntimeException", name := "<init>", desc := "(Ljava/lang/String;)V" } : Jvm.MethodName) jdk_58_method_2_code (2 : Nat) (Option.none : Option Jvm.ClassFile.FieldType), Jvm.Cond.code ({ cls := "java/lang/Exception", name := "<init>", desc := "(Ljava/lang/String;)V" } : Jvm.MethodName) jdk_59_method_2_code (2 : Nat) (Option.none : Option Jvm.ClassFile.FieldType), Jvm.Cond.code ({ cls := "java/lang/Throwable", name := "<init>", desc := "(Ljava/lang/String;)V" } : Jvm.MethodName) jdk_78_method_2_code (2 : Nat) (Option.none : Option Jvm.ClassFile.FieldType), Jvm.Cond.code ({ cls := "java/lang/Throwable", name := "<init>", desc := "()V" } : Jvm.MethodName) jdk_78_method_1_code (1 : Nat) (Option.none : Option Jvm.ClassFile.FieldType), Jvm.Cond.code ({ cls := "java/lang/Throwable", name := "getMessage", desc := "()Ljava/lang/String;" } : Jvm.MethodName) jdk_78_method_6_code (1 : Nat) (Option.some (Jvm.ClassFile.FieldType.object "java/lang/String")), Jvm.Cond.code ({ cls := "java/lang/String", name := "charAt", desc := "(I)C" } : Jvm.MethodName) jdk_42_method_56_code (2 : Nat) (Option.some Jvm.ClassFile.FieldType.char), Jvm.Cond.code ({ cls := "java/lang/String", name := "isLatin1", desc := "()Z" } : Jvm.MethodName) jdk_42_method_154_code (1 : Nat) (Option.some Jvm.ClassFile.FieldType.boolean), Jvm.Cond.code ({ cls := "java/lang/StringLatin1", name := "charAt", desc := "([BI)C" } : Jvm.MethodName) jdk_43_method_2_code (2 : Nat) (Option.some Jvm.ClassFile.FieldType.char), Jvm.Cond.code ({ cls := "java/lang/String", name := "checkIndex", desc := "(II)V" } : Jvm.MethodName) jdk_42_method_155_code (2 : Nat) (Option.none : Option Jvm.ClassFile.FieldType), Jvm.Cond.code ({ cls := "jdk/internal/util/Preconditions", name := "checkIndex", desc := "(IILjava/util/function/BiFunction;)I" } : Jvm.MethodName) jdk_41_method_11_code (3 : Nat) (Option.some Jvm.ClassFile.FieldType.int)]
set_option maxRecDepth 65536 in
theorem codes_eq : words1.filter isCode = codes1 := rfl
theorem w_codes : ∀ c ∈ words1.filter isCode, c.before args0 about1 = true := by
  rw [codes_eq]
  intro c hc
  simp only [codes1, List.mem_cons, List.not_mem_nil, or_false] at hc
  rcases hc with rfl | rfl | rfl | rfl | rfl | rfl | rfl | rfl | rfl | rfl | rfl | rfl | rfl | rfl | rfl | rfl | rfl | rfl | rfl | rfl | rfl | rfl | rfl | rfl | rfl | rfl | rfl | rfl | rfl | rfl | rfl | rfl | rfl | rfl | rfl | rfl | rfl | rfl | rfl | rfl | rfl | rfl | rfl
  · exact w_c0
  · exact w_c1
  · exact w_c2
  · exact w_c3
  · exact w_c4
  · exact w_c5
  · exact w_c6
  · exact w_c7
  · exact w_c8
  · exact w_c9
  · exact w_c10
  · exact w_c11
  · exact w_c12
  · exact w_c13
  · exact w_c14
  · exact w_c15
  · exact w_c16
  · exact w_c17
  · exact w_c18
  · exact w_c19
  · exact w_c20
  · exact w_c21
  · exact w_c22
  · exact w_c23
  · exact w_c24
  · exact w_c25
  · exact w_c26
  · exact w_c27
  · exact w_c28
  · exact w_c29
  · exact w_c30
  · exact w_c31
  · exact w_c32
  · exact w_c33
  · exact w_c34
  · exact w_c35
  · exact w_c36
  · exact w_c37
  · exact w_c38
  · exact w_c39
  · exact w_c40
  · exact w_c41
  · exact w_c42
set_option maxRecDepth 65536 in
theorem w_t1 : (words1.take 24).all (fun c => isCode c || c.before args0 about1) = true := by decide +kernel
set_option maxRecDepth 65536 in
theorem w_t2 : ((words1.drop 24).take 24).all (fun c => isCode c || c.before args0 about1) = true := by decide +kernel
set_option maxRecDepth 65536 in
theorem w_t3 : (((words1.drop 24).drop 24).take 24).all (fun c => isCode c || c.before args0 about1) = true := by decide +kernel
set_option maxRecDepth 65536 in
theorem w_t4 : ((((words1.drop 24).drop 24).drop 24).take 24).all (fun c => isCode c || c.before args0 about1) = true := by decide +kernel
set_option maxRecDepth 65536 in
theorem w_t5 : (((((words1.drop 24).drop 24).drop 24).drop 24).take 24).all (fun c => isCode c || c.before args0 about1) = true := by decide +kernel
set_option maxRecDepth 65536 in
theorem w_t6 : ((((((words1.drop 24).drop 24).drop 24).drop 24).drop 24).take 24).all (fun c => isCode c || c.before args0 about1) = true := by decide +kernel
set_option maxRecDepth 65536 in
theorem w_t7 : (((((((words1.drop 24).drop 24).drop 24).drop 24).drop 24).drop 24).take 24).all (fun c => isCode c || c.before args0 about1) = true := by decide +kernel
set_option maxRecDepth 65536 in
theorem w_t8 : ((((((((words1.drop 24).drop 24).drop 24).drop 24).drop 24).drop 24).drop 24).take 24).all (fun c => isCode c || c.before args0 about1) = true := by decide +kernel
set_option maxRecDepth 65536 in
theorem w_t9 : (((((((((words1.drop 24).drop 24).drop 24).drop 24).drop 24).drop 24).drop 24).drop 24).take 24).all (fun c => isCode c || c.before args0 about1) = true := by decide +kernel
set_option maxRecDepth 65536 in
theorem w_t10 : ((((((((((words1.drop 24).drop 24).drop 24).drop 24).drop 24).drop 24).drop 24).drop 24).drop 24).take 24).all (fun c => isCode c || c.before args0 about1) = true := by decide +kernel
set_option maxRecDepth 65536 in
theorem w_t11 : (((((((((((words1.drop 24).drop 24).drop 24).drop 24).drop 24).drop 24).drop 24).drop 24).drop 24).drop 24).take 24).all (fun c => isCode c || c.before args0 about1) = true := by decide +kernel
set_option maxRecDepth 65536 in
theorem w_t12 : (((((((((((words1.drop 24).drop 24).drop 24).drop 24).drop 24).drop 24).drop 24).drop 24).drop 24).drop 24).drop 24).all (fun c => isCode c || c.before args0 about1) = true := by decide +kernel
theorem w_tables : (allAtoms (Jvm.Cond.code x code maxLocals ret :: tables_1)).before args0 about1 = true := by
  rw [allAtoms_all]
  show words1.all (fun c => c.before args0 about1) = true
  refine all_split ?_ w_codes
  rw [← List.take_append_drop 24 words1, List.all_append, w_t1, ← List.take_append_drop 24 (words1.drop 24), List.all_append, w_t2, ← List.take_append_drop 24 ((words1.drop 24).drop 24), List.all_append, w_t3, ← List.take_append_drop 24 (((words1.drop 24).drop 24).drop 24), List.all_append, w_t4, ← List.take_append_drop 24 ((((words1.drop 24).drop 24).drop 24).drop 24), List.all_append, w_t5, ← List.take_append_drop 24 (((((words1.drop 24).drop 24).drop 24).drop 24).drop 24), List.all_append, w_t6, ← List.take_append_drop 24 ((((((words1.drop 24).drop 24).drop 24).drop 24).drop 24).drop 24), List.all_append, w_t7, ← List.take_append_drop 24 (((((((words1.drop 24).drop 24).drop 24).drop 24).drop 24).drop 24).drop 24), List.all_append, w_t8, ← List.take_append_drop 24 ((((((((words1.drop 24).drop 24).drop 24).drop 24).drop 24).drop 24).drop 24).drop 24), List.all_append, w_t9, ← List.take_append_drop 24 (((((((((words1.drop 24).drop 24).drop 24).drop 24).drop 24).drop 24).drop 24).drop 24).drop 24), List.all_append, w_t10, ← List.take_append_drop 24 ((((((((((words1.drop 24).drop 24).drop 24).drop 24).drop 24).drop 24).drop 24).drop 24).drop 24).drop 24), List.all_append, w_t11, w_t12]
  rfl
set_option maxRecDepth 65536 in
theorem w_rest : rest_1_c.before args0 about1 = true := by decide +kernel
set_option maxRecDepth 65536 in
theorem w_case : (Jvm.Cond.and given_1 narrow_1).before args0 about1 = true := by decide +kernel
set_option maxRecDepth 65536 in
theorem w_consts : constsHeld consts_1 about1 := Jvm.Lit.constsHeldB_iff.mp (by decide +kernel)
theorem w_applies : (headSpec (Jvm.Cond.code x code maxLocals ret :: tables_1) room_1).applies x e0.platform about1 = true :=
  (Spec.applies_iff w_frames).mpr ⟨w_running, w_runnable, w_alone, w_named, w_hears, w_ripe, w_room, w_tables⟩
theorem atStart : AtStart classFile x code maxLocals ret World_1 tables_1 room_1 Calls_1 rest_1 Pre_1 launch0 p0 e0 about1 theMethod args0 below0 :=
  ⟨lists_1, trivial, launch0.admits_env _ _ _, launch0.least_env, fairChoices_fair.cas, fairChoices_fair.clock, w_frames, w_args, w_heap, w_applies, ⟨(by decide +kernel : framesKnown about1 = true), ⟨(by decide +kernel : tablesKnown about1 = true), ⟨w_consts, trivial⟩⟩⟩, w_rest, w_case⟩
end start1
theorem witness_1 : WitnessClaimed_1 := ⟨start1.p0, start1.e0, start1.about1, start1.theMethod, start1.args0, start1.below0, start1.atStart⟩
end Jvm.Pilot.@@N@@
